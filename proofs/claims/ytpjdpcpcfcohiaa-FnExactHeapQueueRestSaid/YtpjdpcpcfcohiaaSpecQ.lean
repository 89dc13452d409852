/-
  spec's type waiting: what memory holds of it; its methods first and take, walked. Conditions: memory holds what they read.
-/
import Derived.Test.YtpjdpcpcfcohiaaItemB
import Derived.Test.YtpjdpcpcfcohiaaPlainY
namespace Go.Proofs.Ytpjdpcpcfcohiaa
open Go.RowKit Go.Shelf
open Hp (g swp Ev St nums fstK fstW dropW fndK fndW setW)

/-- A block of spec's type waiting. -/
def WT (vi : Value) (m : Int) (vo : Value) : Obj := .cells #[vi, .int .i64 m, vo] 53 (0, 0)
theorem WT.cells {w : World} {b : Nat} {vi vo : Value} {m : Int} (h : w.heap[b]? = some (WT vi m vo)) : w.cell? ⟨b, 0, none⟩ = some vi ∧ w.cell? ⟨b, 1, none⟩ = some (.int .i64 m) ∧ w.cell? ⟨b, 2, none⟩ = some vo ∧ ∀ j, w.frozen? ⟨b, j, none⟩ = false := by
  unfold WT at h
  refine ⟨by simp [World.cell?, h], by simp [World.cell?, h], by simp [World.cell?, h], fun j => by simp [World.frozen?, h]⟩
theorem WT.set0 {w : World} {b : Nat} {vi vo : Value} {m : Int} (h : w.heap[b]? = some (WT vi m vo)) (u : Value) : (w.setCell ⟨b, 0, none⟩ u).heap[b]? = some (WT u m vo) := by
  unfold WT at h ⊢
  rw [heap_setCell_same _ _ _ _ _ _ h]
  rfl
theorem WT.set1 {w : World} {b : Nat} {vi vo : Value} {m : Int} (h : w.heap[b]? = some (WT vi m vo)) (u : Int) : (w.setCell ⟨b, 1, none⟩ (.int .i64 u)).heap[b]? = some (WT vi u vo) := by
  unfold WT at h ⊢
  rw [heap_setCell_same _ _ _ _ _ _ h]
  rfl
theorem WT.set2 {w : World} {b : Nat} {vi vo : Value} {m : Int} (h : w.heap[b]? = some (WT vi m vo)) (u : Value) : (w.setCell ⟨b, 2, none⟩ u).heap[b]? = some (WT vi m u) := by
  unfold WT at h ⊢
  rw [heap_setCell_same _ _ _ _ _ _ h]
  rfl
/-- A block that holds one item. -/
def IB (x : It) : Obj := .cells #[.int .i64 x.1, .int .i64 x.2] 34 (0, 0)
theorem IB.cells {w : World} {b : Nat} {x : It} (h : w.heap[b]? = some (IB x)) : w.cell? ⟨b, 0, none⟩ = some (.int .i64 x.1) ∧ w.cell? ⟨b, 1, none⟩ = some (.int .i64 x.2) ∧ ∀ j, w.frozen? ⟨b, j, none⟩ = false := by
  unfold IB at h
  refine ⟨by simp [World.cell?, h], by simp [World.cell?, h], fun j => by simp [World.frozen?, h]⟩
theorem IB.set {w : World} {b : Nat} {x : It} (h : w.heap[b]? = some (IB x)) (y : It) : ((w.setCell ⟨b, 0, none⟩ (.int .i64 y.1)).setCell ⟨b, 1, none⟩ (.int .i64 y.2)).heap[b]? = some (IB y) := by
  unfold IB at h ⊢
  rw [heap_setCell_same _ _ _ _ _ _ (heap_setCell_same _ _ _ _ _ _ h)]
  rfl
theorem heap_alloc_new2' (w : World) (o1 o2 : Obj) : ((w.alloc o1).alloc o2).heap[w.heap.size + 1]? = some o2 := by
  have := heap_alloc_new (w.alloc o1) o2
  rwa [heap_size_alloc] at this
theorem fstK_succ (b : It) (t : List It) (k : Nat) (h : k < t.length) : fstK b (t.take (k + 1)) = if (g t k).1 < (fstK b (t.take k)).1 then g t k else fstK b (t.take k) := by
  rw [take_succ_g t k h]
  unfold fstK
  rw [List.foldl_append]
  rfl
theorem fndK_succ (b : It) (n : Int) (t : List It) (k : Nat) (h : k < t.length) : fndK b n (t.take (k + 1)) = if (g t k).2 = n then g t k else fndK b n (t.take k) := by
  rw [take_succ_g t k h]
  unfold fndK
  rw [List.foldl_append]
  rfl
theorem dropW_succ (n : Int) (t : List It) (k : Nat) (h : k < t.length) : dropW n (t.take (k + 1)) = if (g t k).2 = n then dropW n (t.take k) else dropW n (t.take k) ++ [g t k] := by
  rw [take_succ_g t k h]
  unfold dropW
  rw [List.filter_append]
  by_cases e : (g t k).2 = n
  · rw [if_pos e]; simp [e]
  · rw [if_neg e]; simp [e]

set_option maxHeartbeats 2000000 in
set_option maxRecDepth 100000 in
theorem first_any (w : World) (wb : Nat) (A : Option Addr) (c : Nat) (m : Int) (vo : Value) (t : List It) (hb : w.heap[wb]? = some (WT (.slice A t.length c) m vo)) (hr : Rd w A (cls t)) (h0 : 0 < t.length) (hn : t.length ≤ 13194139537408) :
    Calls Try.prog 51 #[.pointer (some ⟨wb, 0, none⟩)] w (Gives w (.agg #[.int .i64 (fstW t).1, .int .i64 (fstW t).2])) := by
  have hlt := lt_of_block hb
  obtain ⟨k0, _, _, _⟩ := WT.cells hb
  obtain ⟨b, o, hA, hbb, h1, h2⟩ := hr.at_ 0 h0
  subst hA
  rw [Nat.zero_mul, Nat.add_zero] at h1 h2
  obtain ⟨⟨z1, z2⟩, hz⟩ : ∃ z, g t 0 = z := ⟨_, rfl⟩
  rw [hz] at h1 h2
  have HZ := Lib.hid hz
  have HR := Lib.hid hr
  have HS0 := Lib.hid (show ((w.alloc (IB (0, 0))).alloc (IB (z1, z2))).heap[w.heap.size]? = some (IB (0, 0)) ∧ ((w.alloc (IB (0, 0))).alloc (IB (z1, z2))).heap[w.heap.size + 1]? = some (IB (z1, z2)) from by
    refine ⟨?_, ?_⟩
    · rw [Below.heap_alloc _ _ _ (by simp)]
      exact heap_alloc_new _ _
    · have := heap_alloc_new (w.alloc (IB (0, 0))) (IB (z1, z2))
      rwa [heap_size_alloc] at this)
  have HB0 := Lib.hid (((Below.refl w.heap.size w).alloc (Nat.le_refl _) (IB (0, 0))).alloc (by simp) (IB (z1, z2)))
  unfold IB at HS0 HB0
  clear hz hr hb
  go_enter Try.func51, Try.ntmps51
  go_wp2
  go_loopw [17] (fun s17 wr => ∃ (k : Nat), s17 = .int .i64 (k : Int) ∧ k ≤ t.length ∧ Aside (wr.heap[w.heap.size]? = some (IB (0, 0))) ∧ Aside (wr.heap[w.heap.size + 1]? = some (IB (fstK (g t 0) (t.take k)))) ∧ Below w.heap.size w wr) (fun s17 _ => t.length - (intOf s17).toNat)
  case atStart => exact ⟨0, rfl, by omega, HS0.out.1, by rw [HZ.out]; exact HS0.out.2, HB0.out⟩
  case round =>
    obtain ⟨k, rfl, hk, hi0, hi1, hbw⟩ := hrel
    have hsz := hbw.size
    have hz0 := lt_of_block hi0.out
    have hz1 := lt_of_block hi1.out
    by_cases hkl : k < t.length
    · obtain ⟨b', o', hA, hbb', q1, q2⟩ := (HR.out.below hbw (Nat.le_refl _)).at_ k hkl
      injection hA with hA
      injection hA with e1 e2 _
      subst e1
      subst e2
      have hst := fstK_succ (g t 0) t k hkl
      obtain ⟨x, hx⟩ : ∃ x, x = fstK (g t 0) (t.take k) := ⟨_, rfl⟩
      obtain ⟨⟨y1, y2⟩, hy⟩ : ∃ y, g t k = y := ⟨_, rfl⟩
      have hi1' := hi1.out
      rw [← hx] at hst hi1'
      rw [hy] at hst q1 q2
      obtain ⟨x1, x2⟩ := x
      obtain ⟨i1, i2, i3⟩ := IB.cells hi1'
      have f0 := i3 0
      have f1 := i3 1
      simp only at i1 i2
      have ha1 : (wr.alloc (.cells #[.int .i64 y1, .int .i64 y2] 34)).heap[w.heap.size + 1]? = some (IB (x1, x2)) := (Below.heap_alloc _ _ _ hz1).trans hi1'
      have ha0 : (wr.alloc (.cells #[.int .i64 y1, .int .i64 y2] 34)).heap[w.heap.size]? = some (IB (0, 0)) := (Below.heap_alloc _ _ _ hz0).trans hi0.out
      have hba := hbw.alloc hsz (.cells #[.int .i64 y1, .int .i64 y2] 34)
      have HA0 := Lib.hid ha0
      have HA1 := Lib.hid ha1
      have HBA := Lib.hid hba
      have HI0 := Lib.hid hi0.out
      have HI1 := Lib.hid hi1'
      have HBW := Lib.hid hbw
      clear hx hy hi1' i3 ha1 ha0 hba hi0 hi1 hbw
      by_cases hc : y1 < x1
      · rw [if_pos hc] at hst
        have HST := Lib.hid hst
        have HS1 := Lib.hid ((Below.heap_alloc _ (.cells #[.int .i64 y1, .int .i64 y2] 34) _ (by simpa using hz1)).trans (IB.set HI1.out (y1, y2)))
        have HS0' := Lib.hid (show (((wr.setCell ⟨w.heap.size + 1, 0, none⟩ (.int .i64 y1)).setCell ⟨w.heap.size + 1, 1, none⟩ (.int .i64 y2)).alloc (.cells #[.int .i64 y1, .int .i64 y2] 34)).heap[w.heap.size]? = some (IB (0, 0)) by
          rw [Below.heap_alloc _ _ _ (by simpa using hz0), Below.heap_setCell _ _ _ _ (by simp), Below.heap_setCell _ _ _ _ (by simp)]; exact HI0.out)
        have HBS := Lib.hid (((HBW.out.setCell (p := ⟨w.heap.size + 1, 0, none⟩) (by simp) (.int .i64 y1)).setCell (p := ⟨w.heap.size + 1, 1, none⟩) (by simp) (.int .i64 y2)).alloc (by simpa using hsz) (.cells #[.int .i64 y1, .int .i64 y2] 34))
        clear hst
        go_wp2
        go_roundw
        case rel => exact ⟨k + 1, by go_num, by omega, HS0'.out, by rw [HST.out]; exact HS1.out, HBS.out⟩
        case measure => simp [intOf]; omega
      · rw [if_neg hc] at hst
        have HST := Lib.hid hst
        clear hst
        go_wp2
        go_roundw
        case rel => exact ⟨k + 1, by go_num, by omega, HA0.out, by rw [HST.out]; exact HA1.out, HBA.out⟩
        case measure => simp [intOf]; omega
    · have hke : k = t.length := by omega
      have hi1' := hi1.out
      rw [hke, List.take_length, show fstK (g t 0) t = fstW t from rfl] at hi1'
      obtain ⟨⟨x1, x2⟩, hx⟩ : ∃ x, fstW t = x := ⟨_, rfl⟩
      rw [hx] at hi1'
      have HX := Lib.hid hx
      obtain ⟨i1, i2, _⟩ := IB.cells hi1'
      obtain ⟨j1, j2, jf⟩ := IB.cells hi0.out
      have f0 := jf 0
      have f1 := jf 1
      simp only at i1 i2 j1 j2
      have HBS := Lib.hid ((hbw.setCell (p := ⟨w.heap.size, 0, none⟩) (by simp) (.int .i64 x1)).setCell (p := ⟨w.heap.size, 1, none⟩) (by simp) (.int .i64 x2))
      clear hi1' hi0 hi1 jf hx hbw
      go_wp2
      exact bodyPost_ret (v := .agg #[.int .i64 x1, .int .i64 x2]) (by simp [results, Try.results51, go_sem, j1, j2]) rfl ⟨by rw [HX.out], HBS.out⟩

/-- What take leaves. -/
def Taken (w : World) (wb : Nat) (m : Int) (vo : Value) (n : Int) (t : List It) (e : Ending) (w' : World) : Prop :=
  ∃ f b A c L, (f = fndW n t ∧ b = decide (n ∈ nums t) ∧ L = dropW n t) ∧ e = .returned (.tuple #[.agg #[.int .i64 f.1, .int .i64 f.2], .bool b]) ∧ w'.heap[wb]? = some (WT (.slice A L.length c) m vo) ∧ w'.ownsRow w.heap.size 34 2 (.slice A L.length c) L.length (cls L) ∧ Frm (fun i => i = wb) w w'

set_option maxHeartbeats 4000000 in
set_option maxRecDepth 100000 in
theorem take_any (w : World) (wb : Nat) (A : Option Addr) (c : Nat) (m : Int) (vo : Value) (n : Int) (t : List It) (hb : w.heap[wb]? = some (WT (.slice A t.length c) m vo)) (hr : Rd w A (cls t)) (hn : t.length ≤ 13194139537408) :
    Calls Try.prog 50 #[.pointer (some ⟨wb, 0, none⟩), .int .i64 n] w (Taken w wb m vo n t) := by
  have hlt := lt_of_block hb
  obtain ⟨k0, _, _, _⟩ := WT.cells hb
  have HBX := Lib.hid hb
  have HR := Lib.hid hr
  have HS0 := Lib.hid (show ((w.alloc (IB (0, 0))).alloc (IB (0, 0))).heap[w.heap.size]? = some (IB (0, 0)) ∧ ((w.alloc (IB (0, 0))).alloc (IB (0, 0))).heap[w.heap.size + 1]? = some (IB (0, 0)) from by
    refine ⟨?_, ?_⟩
    · rw [Below.heap_alloc _ _ _ (by simp)]
      exact heap_alloc_new _ _
    · have := heap_alloc_new (w.alloc (IB (0, 0))) (IB (0, 0))
      rwa [heap_size_alloc] at this)
  have HB0 := Lib.hid (((Below.refl w.heap.size w).alloc (Nat.le_refl _) (IB (0, 0))).alloc (by simp) (IB (0, 0)))
  unfold IB at HS0 HB0
  clear hr hb
  go_enter Try.func50, Try.ntmps50
  go_wp2
  go_loopw [6, 8, 16] (fun s6 s8 s16 wr => ∃ (k : Nat) (A6 : Option Addr) (c6 : Nat) (L : List It) (b : Bool), s16 = .int .i64 (k : Int) ∧ k ≤ t.length ∧ s6 = .slice A6 L.length c6 ∧ L.length ≤ k ∧ s8 = .bool b ∧ Aside (wr.ownsRow (w.heap.size + 2) 34 2 (.slice A6 L.length c6) L.length (cls L)) ∧
      Aside (wr.heap[w.heap.size]? = some (IB (0, 0))) ∧ Aside (wr.heap[w.heap.size + 1]? = some (IB (fndK (0, 0) n (t.take k)))) ∧ Below w.heap.size w wr ∧ Hid (L = dropW n (t.take k) ∧ b = decide (n ∈ nums (t.take k)))) (fun _ _ s16 _ => t.length - (intOf s16).toNat)
  case atStart => exact ⟨0, none, 0, [], false, rfl, by omega, rfl, by simp, rfl, World.ownsRow_nil _ _ _ _, HS0.out.1, HS0.out.2, HB0.out, rfl, rfl⟩
  case round =>
    obtain ⟨k, A6, c6, L, b, rfl, hk, rfl, hLk, rfl, hown, hi0, hi1, hbw, HEQ⟩ := hrel
    have hsz := hbw.size
    have hz0 := lt_of_block hi0.out
    have hz1 := lt_of_block hi1.out
    by_cases hkl : k < t.length
    · obtain ⟨b', o', hA, hbb', q1, q2⟩ := (HR.out.below hbw (Nat.le_refl _)).at_ k hkl
      subst hA
      have hst := fndK_succ (0, 0) n t k hkl
      have hdr := dropW_succ n t k hkl
      have hmm : decide (n ∈ nums (t.take (k + 1))) = (decide ((g t k).2 = n) || b) := by
        rw [HEQ.out.2, take_succ_g t k hkl]
        simp only [nums, List.map_append, List.map_cons, List.map_nil, List.mem_append, List.mem_singleton]
        rw [Bool.eq_iff_iff]
        simp only [decide_eq_true_eq, Bool.or_eq_true]
        constructor
        · rintro (h | h)
          · exact .inr h
          · exact .inl h.symm
        · rintro (h | h)
          · exact .inr h.symm
          · exact .inl h
      rw [← HEQ.out.1] at hdr
      obtain ⟨x, hx⟩ : ∃ x, x = fndK (0, 0) n (t.take k) := ⟨_, rfl⟩
      obtain ⟨⟨y1, y2⟩, hy⟩ : ∃ y, g t k = y := ⟨_, rfl⟩
      have hi1' := hi1.out
      rw [← hx] at hst hi1'
      rw [hy] at hst q1 q2 hdr hmm
      obtain ⟨x1, x2⟩ := x
      obtain ⟨i1, i2, i3⟩ := IB.cells hi1'
      have f0 := i3 0
      have f1 := i3 1
      simp only at i1 i2 hmm
      have HOW := Lib.hid hown.out
      have HI0 := Lib.hid hi0.out
      have HI1 := Lib.hid hi1'
      have HBW := Lib.hid hbw
      clear hx hy hi1' i3 hi0 hi1 hbw HEQ hown
      by_cases hc : y2 = n
      · rw [if_pos hc] at hst hdr
        have HE2 := Lib.hid (show L = dropW n (t.take (k + 1)) ∧ true = decide (n ∈ nums (t.take (k + 1))) from ⟨hdr.symm, by rw [hmm, decide_eq_true hc]; rfl⟩)
        have HST := Lib.hid hst
        have hcb : (y2 == n) = true := by simpa using hc
        have HS1 := Lib.hid ((Below.heap_alloc _ (.cells #[.int .i64 y1, .int .i64 y2] 34) _ (by simpa using hz1)).trans (IB.set HI1.out (y1, y2)))
        have HS0' := Lib.hid (show (((wr.setCell ⟨w.heap.size + 1, 0, none⟩ (.int .i64 y1)).setCell ⟨w.heap.size + 1, 1, none⟩ (.int .i64 y2)).alloc (.cells #[.int .i64 y1, .int .i64 y2] 34)).heap[w.heap.size]? = some (IB (0, 0)) by
          rw [Below.heap_alloc _ _ _ (by simpa using hz0), Below.heap_setCell _ _ _ _ (by simp), Below.heap_setCell _ _ _ _ (by simp)]; exact HI0.out)
        have HBS := Lib.hid (((HBW.out.setCell (p := ⟨w.heap.size + 1, 0, none⟩) (by simp) (.int .i64 y1)).setCell (p := ⟨w.heap.size + 1, 1, none⟩) (by simp) (.int .i64 y2)).alloc (by simpa using hsz) (.cells #[.int .i64 y1, .int .i64 y2] 34))
        have hnb : (Value.slice A6 L.length c6).ownBlock ≠ some (w.heap.size + 1) := fun e => by have := (HOW.out.lt _ e).1; omega
        have HO2 := Lib.hid ((ownsRow_setCell_other (a := ⟨w.heap.size + 1, 1, none⟩) (ownsRow_setCell_other (a := ⟨w.heap.size + 1, 0, none⟩) HOW.out hnb (.int .i64 y1)) hnb (.int .i64 y2)).alloc (.cells #[.int .i64 y1, .int .i64 y2] 34))
        clear hst hdr hmm hc hnb
        go_wp2
        go_roundw
        case rel => exact ⟨k + 1, A6, c6, L, true, by go_num, by omega, rfl, by omega, rfl, HO2.out, HS0'.out, by rw [HST.out]; exact HS1.out, HBS.out, HE2⟩
        case measure => simp [intOf]; omega
      · rw [if_neg hc] at hst hdr
        have hcb : (y2 == n) = false := by simpa using hc
        have HE2 := Lib.hid (show L ++ [(y1, y2)] = dropW n (t.take (k + 1)) ∧ b = decide (n ∈ nums (t.take (k + 1))) from ⟨hdr.symm, by rw [hmm, decide_eq_false hc]; rfl⟩)
        have HST := Lib.hid hst
        have hzz := heap_alloc_new2' wr (.cells #[.int .i64 y1, .int .i64 y2] 34) (.cells #[.int .i64 y1, .int .i64 y2] 34)
        have ho3 := (HOW.out.alloc (.cells #[.int .i64 y1, .int .i64 y2] 34)).alloc (.cells #[.int .i64 y1, .int .i64 y2] 34)
        obtain ⟨A8, c8, w8, hrun, ho8, hg8⟩ := run_append_item ho3 (y1, y2) (wr.heap.size + 1) hzz (by omega) (by simp; omega) 24
        have hb3 := (HBW.out.alloc hsz (.cells #[.int .i64 y1, .int .i64 y2] 34)).alloc (by simp; omega) (.cells #[.int .i64 y1, .int .i64 y2] 34)
        have hI : ∀ i (o : Obj), i < w.heap.size + 2 → wr.heap[i]? = some o → w8.heap[i]? = some o := fun i o hi ho => by
          rw [hg8.block i (by have := lt_of_block ho; simp; omega) (fun e => by have := (HOW.out.lt _ e.symm).1; omega)]
          rw [Below.heap_alloc _ _ _ (by have := lt_of_block ho; simp; omega), Below.heap_alloc _ _ _ (lt_of_block ho)]
          exact ho
        have HI0' := Lib.hid (hI _ _ (by omega) HI0.out)
        have HI1' := Lib.hid (hI _ _ (by omega) HI1.out)
        have HRUN := Lib.hid hrun
        have HO8 := Lib.hid (show w8.ownsRow (w.heap.size + 2) 34 2 (.slice A8 (L ++ [(y1, y2)]).length c8) (L ++ [(y1, y2)]).length (cls (L ++ [(y1, y2)])) by rw [List.length_append]; exact ho8)
        have HB8 := Lib.hid (hb3.grown hg8 (by simp; omega) (fun j hj => by have := (HOW.out.lt j hj).1; omega))
        have HLL := Lib.hid (show (L ++ [(y1, y2)]).length = L.length + 1 by rw [List.length_append]; rfl)
        clear hst hdr hmm hc hzz ho3 hrun ho8 hg8 hb3 hI i1 i2 f0 f1
        go_wp2_with (at_builtin; refine wpList_append_run rfl _ _ _ rfl _ _ _ _ rfl rfl HRUN.out ?_)
        rw [← HLL.out]
        go_roundw
        case rel => exact ⟨k + 1, A8, c8, L ++ [(y1, y2)], b, by go_num, by omega, rfl, by rw [HLL.out]; omega, rfl, HO8.out, HI0'.out, by rw [HST.out]; exact HI1'.out, HB8.out, HE2⟩
        case measure => simp [intOf]; omega
    · have hke : k = t.length := by omega
      have hi1' := hi1.out
      have heq := HEQ.out
      rw [hke, List.take_length] at hi1' heq
      rw [show fndK (0, 0) n t = fndW n t from rfl] at hi1'
      obtain ⟨⟨x1, x2⟩, hx⟩ : ∃ x, fndW n t = x := ⟨_, rfl⟩
      rw [hx] at hi1'
      have HX := Lib.hid hx
      have HE := Lib.hid heq
      obtain ⟨i1, i2, _⟩ := IB.cells hi1'
      obtain ⟨j1, j2, jf⟩ := IB.cells hi0.out
      have f0 := jf 0
      have f1 := jf 1
      simp only at i1 i2 j1 j2
      have hbx : wr.heap[wb]? = some (WT (.slice A t.length c) m vo) := by rw [hbw.block wb hlt]; exact HBX.out
      obtain ⟨k00, _, _, kf⟩ := WT.cells hbx
      have kf0 := kf 0
      have hltr := lt_of_block hbx
      have hne0 : wb ≠ w.heap.size := by omega
      have hne1 : wb ≠ w.heap.size + 1 := by omega
      have HF := Lib.hid (show Frm (fun i => i = wb) w (((wr.setCell ⟨wb, 0, none⟩ (.slice A6 L.length c6)).setCell ⟨w.heap.size, 0, none⟩ (.int .i64 x1)).setCell ⟨w.heap.size, 1, none⟩ (.int .i64 x2)) by
        have h1 : Frm (fun i => i = wb) w (wr.setCell ⟨wb, 0, none⟩ (.slice A6 L.length c6)) := Frm.setCell (X := fun i => i = wb) (p := ⟨wb, 0, none⟩) (Frm.of_new hbw) rfl _
        refine ⟨h1.os, h1.tape, h1.output, by simpa [World.setCell] using h1.size, fun i hi hx => ?_⟩
        rw [Below.heap_setCell _ _ _ _ (by show i ≠ w.heap.size; omega), Below.heap_setCell _ _ _ _ (by show i ≠ w.heap.size; omega)]
        exact h1.block i hi hx)
      have HBQ := Lib.hid (show (((wr.setCell ⟨wb, 0, none⟩ (.slice A6 L.length c6)).setCell ⟨w.heap.size, 0, none⟩ (.int .i64 x1)).setCell ⟨w.heap.size, 1, none⟩ (.int .i64 x2)).heap[wb]? = some (WT (.slice A6 L.length c6) m vo) by
        rw [Below.heap_setCell _ _ _ _ hne0, Below.heap_setCell _ _ _ _ hne0]
        exact WT.set0 hbx _)
      have HOQ := Lib.hid (show (((wr.setCell ⟨wb, 0, none⟩ (.slice A6 L.length c6)).setCell ⟨w.heap.size, 0, none⟩ (.int .i64 x1)).setCell ⟨w.heap.size, 1, none⟩ (.int .i64 x2)).ownsRow w.heap.size 34 2 (.slice A6 L.length c6) L.length (cls L) by
        have hlo : ∀ j, (Value.slice A6 L.length c6).ownBlock = some j → w.heap.size + 2 ≤ j := fun j e => (hown.out.lt j e).1
        refine own_base (B := w.heap.size + 2) ?_ (by omega)
        exact ownsRow_setCell_other (a := ⟨w.heap.size, 1, none⟩) (ownsRow_setCell_other (a := ⟨w.heap.size, 0, none⟩) (ownsRow_setCell_other (a := ⟨wb, 0, none⟩) hown.out (fun e => by have := hlo _ e; simp only at this; omega) _) (fun e => by have := hlo _ e; simp only at this; omega) _) (fun e => by have := hlo _ e; simp only at this; omega) _)
      clear hi1' hi0 hi1 jf hx hbw hown HEQ heq hbx kf
      go_wp2
      exact bodyPost_ret (v := .tuple #[.agg #[.int .i64 x1, .int .i64 x2], .bool b]) (by simp [results, Try.results50, go_sem, j1, j2]) rfl ⟨(x1, x2), b, A6, c6, L, ⟨HX.out.symm, HE.out.2, HE.out.1⟩, rfl, HBQ.out, HOQ.out, HF.out⟩
end Go.Proofs.Ytpjdpcpcfcohiaa
