/-
  The helper functions qCount, qBits and qReplayed of the laws: what they return. Condition: memory holds what they are handed; the calls can be made anew.
-/
import Derived.Test.YtfmfndpeiffehaaTrace
import Derived.Test.YtfmfndpeiffehaaWith
import Derived.Test.YtfmfndpeiffehaaImplFix
import Derived.BigRegion
namespace Go.Proofs.Ytfmfndpeiffehaa
open Go.RowKit Go.Shelf
open Hp (g swp Ev)

set_option maxHeartbeats 1000000 in
set_option maxRecDepth 100000 in
theorem qCount_any (w : World) (A : Option Addr) (n c : Nat) (tr : List Ev) (kind : Int) (hl : n = tr.length) (hr : Rd w A (ces tr)) (hn : tr.length * 32 ≤ 140737488355328) :
    Calls Try.prog 17 #[.slice A n c, .int .i64 kind] w (Gives w (.int .i64 (Hp.kinds kind tr : Nat))) := by
  subst hl
  go_enter Try.func17, Try.ntmps17
  go_wp2
  go_loopw [5, 10] (fun s5 s10 wr => ∃ (k : Nat), s10 = .int .i64 (k : Int) ∧ k ≤ tr.length ∧ s5 = .int .i64 ((Hp.kinds kind (tr.take k) : Nat) : Int) ∧ Below w.heap.size w wr) (fun _ s10 _ => tr.length - (intOf s10).toNat)
  case atStart => exact ⟨0, rfl, by omega, rfl, Below.refl _ _⟩
  case round =>
    obtain ⟨k, rfl, hk, rfl, hb⟩ := hrel
    have hsz := hb.size
    have hcl : Hp.kinds kind (tr.take k) ≤ k := Nat.le_trans List.countP_le_length (List.length_take_le _ _)
    by_cases hlt : k < tr.length
    · obtain ⟨b, o, rfl, hbb, h0, h1, h2, h3⟩ := (hr.below hb (Nat.le_refl _)).atC k hlt
      have hks : Hp.kinds kind (tr.take (k + 1)) = Hp.kinds kind (tr.take k) + if (g tr k).1 = kind then 1 else 0 := by
        rw [take_succ_g tr k hlt, Hp.kinds_append, Hp.kinds_cons, Hp.kinds_nil]; omega
      obtain ⟨⟨y0, y1, y2, y3⟩, hy⟩ : ∃ y, g tr k = y := ⟨_, rfl⟩
      rw [hy] at h0 h1 h2 h3 hks
      have HKS := Lib.hid hks
      clear hr hy hks
      by_cases he : y0 = kind
      · subst he
        go_wp2
        go_roundw
        case rel => exact ⟨k + 1, by go_num, by omega, by rw [HKS.out]; simp, hb.alloc hsz _⟩
        case measure => simp [intOf]; omega
      · have hq : (y0 == kind) = false := by simpa using he
        have HE := Lib.hid he
        clear he
        go_wp2
        go_roundw
        case rel => exact ⟨k + 1, by go_num, by omega, by rw [HKS.out, if_neg HE.out]; simp, hb.alloc hsz _⟩
        case measure => simp [intOf]; omega
    · go_wp2
      go_ret
      refine ⟨?_, hb⟩
      rw [List.take_of_length_le (by omega)]
      rfl

set_option maxHeartbeats 1000000 in
set_option maxRecDepth 100000 in
theorem qBits_any (w : World) (n : Nat) (hn : n < 4611686018427387904) :
    Calls Try.prog 18 #[.int .i64 (n : Int)] w fun e w' => e = .returned (.int .i64 (Hp.bitsN n : Nat)) ∧ w = w' := by
  have hb62 := Hp.bits_le 62 n (by omega)
  go_enter Try.func18, Try.ntmps18
  go_wp2
  go_loop [0, 3] (fun s0 s3 => ∃ (m k : Nat), s0 = .int .i64 (m : Int) ∧ s3 = .int .i64 (k : Int) ∧ m ≤ n ∧ k ≤ 62 ∧ Hid (k + Hp.bitsN m = Hp.bitsN n)) (fun s0 _ => (intOf s0).toNat)
  case atStart => exact ⟨n, 0, rfl, rfl, Nat.le_refl _, by omega, by simp [Hid]⟩
  case round =>
    obtain ⟨m, k, rfl, rfl, hm, hk, HK⟩ := hrel
    by_cases h0 : 0 < m
    · have hh := Hp.bits_half h0
      have hk2 : k + 1 ≤ 62 := by have := HK.out; omega
      have HN : Hid (k + 1 + Hp.bitsN (m / 2) = Hp.bitsN n) := by unfold Hid; have := HK.out; omega
      clear hh
      go_wp2
      go_round
      case rel => exact ⟨m / 2, k + 1, by go_num, by go_num, by omega, hk2, HN⟩
      case measure => simp [intOf]; omega
    · have hm0 : m = 0 := by omega
      subst hm0
      go_wp2
      go_ret
      have := HK.out
      rw [Hp.bits_zero, Nat.add_zero] at this
      exact ⟨by rw [← this]; rfl, rfl⟩

/-- What qReplayed leaves: two new lists and true. -/
def Replayed (w : World) (s : List It × List It) (e : Ending) (w' : World) : Prop :=
  ∃ A c B d, e = .returned (.tuple #[.slice A s.1.length c, .slice B s.2.length d, .bool true]) ∧ w'.ownsRow w.heap.size 35 2 (.slice A s.1.length c) s.1.length (cls s.1) ∧
    w'.ownsRow w.heap.size 35 2 (.slice B s.2.length d) s.2.length (cls s.2) ∧ Below w.heap.size w w'

/-- append of one item onto an own slice, and where the new slice lies. -/
theorem wpList_append_item_at {w : World} {ops : Array Oper} {rest : List Oper} {o : Oper} {a : Act} {Q : Exit → Act → World → Prop} (hgd : o.guard = none) (s x : Operand)
    (ho : o.op = .call { callee := .builtin .append, args := #[s, x], argTypes := #[26, 26] }) (v : Value) (B : Nat) (l : List It) (y : It) (gs : Nat) (hs : a.eval s = v) (hx : a.eval x = .slice (some ⟨gs, 0, none⟩) 1 1)
    (hown : w.ownsRow B 35 2 v l.length (cls l)) (hg : w.heap[gs]? = some (.cells #[.int .i64 y.1, .int .i64 y.2] 35 (0, 0)))
    (hn : (l.length + 1) * 16 ≤ 140737488355328) (hB : B ≤ w.heap.size)
    (h : ∀ A' c' w', w'.ownsRow B 35 2 (.slice A' (l.length + 1) c') (l.length + 1) (cls (l ++ [y])) → w.grownBy w' v.ownBlock → (∀ k : Addr, A' = some k → v.ownBlock = some k.block ∨ w.heap.size ≤ k.block) → wpList Try.prog ops Q rest (a.put o.dst (.slice A' (l.length + 1) c')) w') : wpList Try.prog ops Q (o :: rest) a w := by
  obtain ⟨i0, hi, hz0, hz1, hz2⟩ := info_parts info_item
  obtain ⟨v', w', hr, h2, h3, _, h5⟩ := run_append_own_at (P := Try.prog) w B 26 o.type 35 i0 _ 2 16 Try.underlying26 hi hz0 hz1 hz2 rfl (by decide) v l.length (cls l) hown
    ⟨gs, 0, none⟩ 1 1 [.int .i64 y.1, .int .i64 y.2] rfl (World.news_of_block (cs := #[.int .i64 y.1, .int .i64 y.2]) (t := 35) (fr := (0, 0)) hg) (by simp [Value.oneCell']) (by simp only [maxLen]; omega) (by omega) hB
  obtain ⟨A', c', rfl⟩ := own_slice h2
  refine wpList_append_run hgd s x _ ho _ _ _ _ hs hx hr (h A' c' w' (by rw [cls_append]; exact h2) h3 ?_)
  rintro k rfl
  rcases h5 with h | h
  · left; rw [← h]; rfl
  · right
    have : k.block = w.heap.size := by simpa [Value.ownBlock] using h
    omega

/-- The two lists of qReplayed in memory. -/
structure RPL (B0 : Nat) (v u : Value) (lh lo : List It) (w : World) : Prop where
  h : w.ownsRow B0 35 2 v lh.length (cls lh)
  o : w.ownsRow B0 35 2 u lo.length (cls lo)
  ne : v.ownBlock = none ∨ v.ownBlock ≠ u.ownBlock

theorem RPL.alloc {B0 : Nat} {v u : Value} {lh lo : List It} {w : World} (r : RPL B0 v u lh lo w) (x : Obj) : RPL B0 v u lh lo (w.alloc x) := ⟨r.h.alloc x, r.o.alloc x, r.ne⟩

/-- An exchange in the first list. -/
theorem RPL.swap {B0 gb n cap : Nat} {u : Value} {lh lo : List It} {w : World} (r : RPL B0 (.slice (some ⟨gb, 0, none⟩) n cap) u lh lo w) (hn : n = lh.length) (i j : Nat) (hi : i < lh.length) (hj : j < lh.length) :
    RPL B0 (.slice (some ⟨gb, 0, none⟩) n cap) u (swp lh i j) lo ((((w.setCell ⟨gb, i * 2, none⟩ (.int .i64 (g lh j).1)).setCell ⟨gb, i * 2 + 1, none⟩ (.int .i64 (g lh j).2)).setCell ⟨gb, j * 2, none⟩ (.int .i64 (g lh i).1)).setCell ⟨gb, j * 2 + 1, none⟩ (.int .i64 (g lh i).2)) := by
  subst hn
  have h1 := own_store r.h rfl i hi (g lh j)
  have h2 := own_store h1 (by simp) j (by simpa using hj) (g lh i)
  have hne : u.ownBlock ≠ some gb := by
    rcases r.ne with h | h
    · simp [Value.ownBlock] at h
    · intro e; exact h (by rw [e]; rfl)
  refine ⟨by rw [Hp.length_swp]; exact h2, ?_, r.ne⟩
  exact ownsRow_setCell_other (a := ⟨gb, _, none⟩) (ownsRow_setCell_other (a := ⟨gb, _, none⟩) (ownsRow_setCell_other (a := ⟨gb, _, none⟩) (ownsRow_setCell_other (a := ⟨gb, _, none⟩) r.o hne _) hne _) hne _) hne _

/-- The last item goes from the first list to the second. -/
theorem RPL.pop {B0 gb n cap : Nat} {u : Value} {lh lo : List It} {w w' : World} (r : RPL B0 (.slice (some ⟨gb, 0, none⟩) (n + 1) cap) u lh lo w) (hn : n + 1 = lh.length) (A : Option Addr) (c : Nat) (x : It)
    (ho : w'.ownsRow B0 35 2 (.slice A (lo.length + 1) c) (lo.length + 1) (cls (lo ++ [x]))) (hg : w.grownBy w' u.ownBlock) (hA : ∀ k, A = some k → u.ownBlock = some k.block ∨ w.heap.size ≤ k.block) :
    RPL B0 (.slice (some ⟨gb, 0, none⟩) n cap) (.slice A (lo.length + 1) c) lh.dropLast (lo ++ [x]) w' := by
  have hh := r.h
  rw [← hn] at hh
  have hlt := (hh.lt gb rfl).2
  have h1 := own_pop hh hn.symm
  have hne : some gb ≠ u.ownBlock := by
    rcases r.ne with h | h
    · simp [Value.ownBlock] at h
    · exact h
  refine ⟨?_, by rw [List.length_append]; exact ho, .inr ?_⟩
  · rw [List.length_dropLast, ← hn, Nat.add_sub_cancel]
    exact h1.kept hg (.inr hne)
  · intro e
    cases A with
    | none => simp [Value.ownBlock] at e
    | some k =>
      have e' : gb = k.block := by simpa [Value.ownBlock] using e
      rcases hA k rfl with h | h
      · exact hne (by rw [h, e'])
      · omega

theorem RPL.popW {B0 : Nat} {v u : Value} {lh lo : List It} {w : World} (r : RPL B0 v u lh lo w) (x : Obj) (q : Nat) (y : Obj) : RPL B0 v u lh lo (((w.alloc x).drewN q).alloc y) :=
  RPL.alloc (w := (w.alloc x).drewN q) ⟨⟨(r.h.alloc x).1, (r.h.alloc x).2⟩, ⟨(r.o.alloc x).1, (r.o.alloc x).2⟩, r.ne⟩ y

theorem pop_new (w : World) (x : Obj) (q : Nat) (y : Obj) : (((w.alloc x).drewN q).alloc y).heap[w.heap.size + 1]? = some y := by
  have h := heap_alloc_new ((w.alloc x).drewN q) y
  have e : ((w.alloc x).drewN q).heap.size = w.heap.size + 1 := heap_size_alloc w x
  rwa [e] at h

theorem pop_below {B : Nat} {a w : World} (h : Below B a w) (hB : B ≤ w.heap.size) (x : Obj) (q : Nat) (y : Obj) : Below B a (((w.alloc x).drewN q).alloc y) := by
  have h1 := h.alloc hB x
  have h2 : Below B a ((w.alloc x).drewN q) := ⟨h1.os, h1.tape, h1.output, h1.size, h1.block⟩
  refine h2.alloc ?_ y
  have e : ((w.alloc x).drewN q).heap.size = w.heap.size + 1 := heap_size_alloc w x
  omega

set_option maxHeartbeats 4000000 in
set_option maxRecDepth 100000 in
theorem qReplayed_any (w : World) (A B : Option Addr) (n m c d : Nat) (l : List It) (tr : List Ev) (s : List It × List It) (hl : n = l.length) (hm : m = tr.length) (hr : Rd w A (cls l)) (hc : Rd w B (ces tr)) (hn : l.length * 16 ≤ 140737488355328) (ht : tr.length ≤ 1024)
    (hs : Hp.rep (l, []) tr = some s) :
    Calls Try.prog 20 #[.slice A n c, .slice B m d] w (Replayed w s) := by
  subst hl
  subst hm
  obtain ⟨A', c', w1, hrun, ho1, hb1⟩ := run_copy_items w A c l hr hn 26
  have HR := Lib.hid hrun
  have HO1 := Lib.hid ho1
  have HB1 := Lib.hid hb1
  have HS := Lib.hid hs
  clear ho1 hb1 hrun hs hr
  go_enter Try.func20, Try.ntmps20
  go_wp2_with (at_builtin; refine wpList_append_run rfl _ _ _ rfl _ _ _ _ rfl rfl HR.out ?_)
  go_loopw [7, 8, 16] (fun s7 s8 s16 wr => ∃ (k nh no : Nat) (Ah Ao : Option Addr) (ch co : Nat) (lh lo : List It), s16 = .int .i64 (k : Int) ∧ k ≤ tr.length ∧ s7 = .slice Ah nh ch ∧ s8 = .slice Ao no co ∧ Hid (nh = lh.length) ∧ Hid (no = lo.length) ∧ nh + no ≤ l.length ∧
      Aside (RPL w.heap.size (.slice Ah nh ch) (.slice Ao no co) lh lo wr) ∧ Below w.heap.size w wr ∧ Hid (Hp.rep (lh, lo) (tr.drop k) = some s)) (fun _ _ s16 _ => tr.length - (intOf s16).toNat)
  case atStart => exact ⟨0, l.length, 0, A', none, c', 0, l, [], rfl, by omega, rfl, rfl, rfl, rfl, by omega, ⟨HO1.out, World.ownsRow_nil _ _ _ _, by cases A' <;> simp [Value.ownBlock]⟩, HB1.out, HS.out⟩
  case round =>
    obtain ⟨k, nh, no, Ah, Ao, ch, co, lh, lo, rfl, hk, rfl, rfl, HNH, HNO, hno, hR, hb, HREP⟩ := hrel
    have hsz := hb.size
    by_cases hlt : k < tr.length
    · obtain ⟨b, o, rfl, hbb, h0, h1, h2, h3⟩ := (hc.below hb (Nat.le_refl _)).atC k hlt
      obtain ⟨⟨y0, y1, y2, y3⟩, hy⟩ : ∃ y, g tr k = y := ⟨_, rfl⟩
      have hrep := HREP.out
      rw [List.drop_eq_getElem_cons hlt, Hp.g_eq hlt, hy, Hp.rep] at hrep
      rw [hy] at h0 h1 h2 h3
      obtain ⟨s', hs', hrep'⟩ := Option.bind_eq_some_iff.1 hrep
      clear hc hy hrep HREP
      unfold Hp.stepR at hs'
      simp only at hs'
      by_cases hy1 : y1 = (lh.length : Int)
      · rw [if_pos hy1] at hs'
        rw [← HNH.out] at hy1
        subst hy1
        by_cases hk1 : y0 = 1
        · rw [if_pos hk1] at hs'
          subst hk1
          by_cases hbd : 0 ≤ y2 ∧ 0 ≤ y3 ∧ y2 < lh.length ∧ y3 < lh.length
          · rw [if_pos hbd] at hs'
            obtain ⟨hi0, hj0, hi1, hj1⟩ := hbd
            rw [← HNH.out] at hi1 hj1
            injection hs' with hs'
            subst hs'
            have HREP := Lib.hid hrep'
            clear hrep'
            have q1 : decide (y2 < 0) = false := decide_eq_false (by omega)
            have q2 : decide (y3 < 0) = false := decide_eq_false (by omega)
            have q3 : decide ((nh : Int) ≤ y2) = false := decide_eq_false (by omega)
            have q4 : decide ((nh : Int) ≤ y3) = false := decide_eq_false (by omega)
            go_wp2
            go_roundw
            case rel => exact ⟨k + 1, nh, no, Ah, Ao, ch, co, lh, lo, by go_num, by omega, rfl, rfl, HNH, HNO, hno, hR.out.alloc _, hb.alloc hsz _, HREP⟩
            case measure => simp [intOf]; omega
          · rw [if_neg hbd] at hs'; cases hs'
        · rw [if_neg hk1] at hs'
          by_cases hk2 : y0 = 2
          · rw [if_pos hk2] at hs'
            subst hk2
            by_cases hbd : 0 ≤ y2 ∧ 0 ≤ y3 ∧ y2 < lh.length ∧ y3 < lh.length
            · rw [if_pos hbd] at hs'
              obtain ⟨hi0, hj0, hi1, hj1⟩ := hbd
              injection hs' with hs'
              subst hs'
              obtain ⟨i, rfl⟩ := Int.eq_ofNat_of_zero_le hi0
              obtain ⟨j, rfl⟩ := Int.eq_ofNat_of_zero_le hj0
              rw [Int.toNat_natCast, Int.toNat_natCast] at hrep'
              have hil : i < lh.length := by omega
              have hjl : j < lh.length := by omega
              obtain ⟨gb, hAh⟩ : ∃ gb, Ah = some ⟨gb, 0, none⟩ := by
                rcases hR.out.h.2 with ⟨_, h00⟩ | ⟨gb, cap, cur, hv, _⟩
                · omega
                · exact ⟨gb, by injection hv⟩
              subst hAh
              have hRR := hR.out
              have hh := hRR.h
              rw [← HNH.out] at hh
              have ci1 := (hh.cellAt (i * 2) (by have := HNH.out; omega)).trans (cls_at lh i hil).1
              have ci2 := (hh.cellAt (i * 2 + 1) (by have := HNH.out; omega)).trans (cls_at lh i hil).2
              have cj1 := (hh.cellAt (j * 2) (by have := HNH.out; omega)).trans (cls_at lh j hjl).1
              have cj2 := (hh.cellAt (j * 2 + 1) (by have := HNH.out; omega)).trans (cls_at lh j hjl).2
              have hf := fun k => hh.frozenAt k
              have hgl := hh.lt gb rfl
              have HNS : Hid (nh = (swp lh i j).length) := by rw [Hp.length_swp]; exact HNH
              obtain ⟨⟨a1, a2⟩, ha⟩ : ∃ a, g lh i = a := ⟨_, rfl⟩
              obtain ⟨⟨b1, b2⟩, hbv⟩ : ∃ b, g lh j = b := ⟨_, rfl⟩
              have hRS := ((hRR.swap HNH.out i j hil hjl).alloc (.cells #[.int .i64 2, .int .i64 (nh : Int), .int .i64 (i : Int), .int .i64 (j : Int)] 51)).alloc (.cells #[.int .i64 a1, .int .i64 a2] 35)
              rw [ha, hbv] at hRS
              rw [ha] at ci1 ci2
              rw [hbv] at cj1 cj2
              have hBS := (((((hb.setCell (p := ⟨gb, i * 2, none⟩) hgl.1 (.int .i64 b1)).setCell (p := ⟨gb, i * 2 + 1, none⟩) hgl.1 (.int .i64 b2)).setCell (p := ⟨gb, j * 2, none⟩) hgl.1 (.int .i64 a1)).setCell (p := ⟨gb, j * 2 + 1, none⟩) hgl.1 (.int .i64 a2)).alloc (by simpa [World.setCell] using hsz) (.cells #[.int .i64 2, .int .i64 (nh : Int), .int .i64 (i : Int), .int .i64 (j : Int)] 51)).alloc (by simp [World.setCell]; omega) (.cells #[.int .i64 a1, .int .i64 a2] 35)
              have HRS := Lib.hid hRS
              have HBS := Lib.hid hBS
              have HREP := Lib.hid hrep'
              have hgz := hgl.2
              have hin : i < nh := by have := HNH.out; omega
              have hjn : j < nh := by have := HNH.out; omega
              clear hrep' hRR hh hRS hBS ha hbv hgl hi1 hj1 hi0 hj0 hR hb
              have q1 : decide ((i : Int) < 0) = false := decide_eq_false (by omega)
              have q2 : decide ((j : Int) < 0) = false := decide_eq_false (by omega)
              have q3 : decide (nh ≤ i) = false := decide_eq_false (by omega)
              have q4 : decide (nh ≤ j) = false := decide_eq_false (by omega)
              by_cases hij : i = j
              · subst hij
                have e1 : b1 = a1 := by have := cj1.symm.trans ci1; injection this with this; injection this
                have e2 : b2 = a2 := by have := cj2.symm.trans ci2; injection this with this; injection this
                subst e1
                subst e2
                clear cj1 cj2
                go_wp2_with fail
                go_region
                all_goals
                  go_wp2
                  go_roundw
                  case rel => exact ⟨k + 1, nh, no, some ⟨gb, 0, none⟩, Ao, ch, co, swp lh i i, lo, by go_num, by omega, rfl, rfl, HNS, HNO, hno, ⟨HRS.out.h, HRS.out.o, HRS.out.ne⟩, ⟨HBS.out.os, HBS.out.tape, HBS.out.output, HBS.out.size, HBS.out.block⟩, HREP⟩
                  case measure => simp [intOf]; omega
              · have hji : ¬ j = i := fun h => hij h.symm
                go_wp2_with fail
                go_region
                all_goals
                  go_wp2
                  go_roundw
                  case rel => exact ⟨k + 1, nh, no, some ⟨gb, 0, none⟩, Ao, ch, co, swp lh i j, lo, by go_num, by omega, rfl, rfl, HNS, HNO, hno, ⟨HRS.out.h, HRS.out.o, HRS.out.ne⟩, ⟨HBS.out.os, HBS.out.tape, HBS.out.output, HBS.out.size, HBS.out.block⟩, HREP⟩
                  case measure => simp [intOf]; omega
            · rw [if_neg hbd] at hs'; cases hs'
          · rw [if_neg hk2] at hs'
            by_cases hk4 : y0 = 4
            · rw [if_pos hk4] at hs'
              subst hk4
              by_cases hbd : 0 < lh.length ∧ g lh (lh.length - 1) = (y2, y3)
              · rw [if_pos hbd] at hs'
                obtain ⟨hp0, hgl⟩ := hbd
                injection hs' with hs'
                subst hs'
                obtain ⟨p, hp⟩ : ∃ p, nh = p + 1 := ⟨nh - 1, by have := HNH.out; omega⟩
                subst hp
                have hpl : lh.length = p + 1 := HNH.out.symm
                rw [hpl, Nat.add_sub_cancel] at hgl
                obtain ⟨gb, hAh, hcap⟩ : ∃ gb, Ah = some ⟨gb, 0, none⟩ ∧ p + 1 ≤ ch := by
                  rcases hR.out.h.2 with ⟨_, h00⟩ | ⟨gb, cap, cur, hv, _, _, hcc, _⟩
                  · omega
                  · injection hv with hv1 hv2 hv3
                    exact ⟨gb, hv1, by rw [hv3]; omega⟩
                subst hAh
                have hRR := hR.out
                have hh := hRR.h
                rw [hpl] at hh
                have ci1 := (hh.cellAt (p * 2) (by omega)).trans (cls_at lh p (by omega)).1
                have ci2 := (hh.cellAt (p * 2 + 1) (by omega)).trans (cls_at lh p (by omega)).2
                rw [hgl] at ci1 ci2
                have hgz := (hh.lt gb rfl).2
                have HREP := Lib.hid hrep'
                have HRR := Lib.hid hRR
                have HPL := Lib.hid hpl
                clear hrep' hRR hh hpl hp0 hR
                have q1 : ((p : Int) + 1 == 0) = false := by simp; omega
                have hp1 : (0 : Int) ≤ (p : Int) := Int.natCast_nonneg _
                have HRP : Hid (∀ nq, RPL w.heap.size (.slice (some ⟨gb, 0, none⟩) (p + 1) ch) (.slice Ao no co) lh lo (((wr.alloc (.cells #[.int .i64 4, .int .i64 ((p : Int) + 1), .int .i64 y2, .int .i64 y3] 51)).drewN nq).alloc (.cells #[.int .i64 y2, .int .i64 y3] 35))) := fun nq => HRR.out.popW _ nq _
                have HNEW : Hid (∀ nq, (((wr.alloc (.cells #[.int .i64 4, .int .i64 ((p : Int) + 1), .int .i64 y2, .int .i64 y3] 51)).drewN nq).alloc (.cells #[.int .i64 y2, .int .i64 y3] 35)).heap[wr.heap.size + 1]? = some (.cells #[.int .i64 y2, .int .i64 y3] 35)) := fun nq => pop_new _ _ nq _
                have HBW : Hid (∀ nq, Below w.heap.size w (((wr.alloc (.cells #[.int .i64 4, .int .i64 ((p : Int) + 1), .int .i64 y2, .int .i64 y3] 51)).drewN nq).alloc (.cells #[.int .i64 y2, .int .i64 y3] 35))) := fun nq => pop_below hb hsz _ nq _
                have HSZ : Hid (∀ nq, w.heap.size ≤ (((wr.alloc (.cells #[.int .i64 4, .int .i64 ((p : Int) + 1), .int .i64 y2, .int .i64 y3] 51)).drewN nq).alloc (.cells #[.int .i64 y2, .int .i64 y3] 35)).heap.size) := fun nq => (HBW.out nq).size
                have hlo : (lo.length + 1) * 16 ≤ 140737488355328 := by have := HNO.out; omega
                have hlo2 : p + (lo.length + 1) ≤ l.length := by have := HNO.out; omega
                have HDL : Hid (p = lh.dropLast.length) := by unfold Hid; rw [List.length_dropLast]; have := HPL.out; omega
                have HL1 : Hid (lo.length + 1 = (lo ++ [(y2, y3)]).length) := by unfold Hid; rw [List.length_append]; rfl
                clear hb
                go_wp2_with fail
                go_quiet (fail)
                go_wp2_with (at_builtin; refine wpList_append_item_at rfl _ _ rfl (.slice Ao no co) w.heap.size lo (y2, y3) (wr.heap.size + 1) rfl rfl (HRP.out nq).o (HNEW.out nq) hlo (HSZ.out nq) ?_)
                intro A2 c2 w2 ho2 hg2 hA2
                have HP2 := Lib.hid ((HRP.out nq).pop HPL.out.symm A2 c2 (y2, y3) ho2 hg2 (by simpa using hA2))
                have HB2 := Lib.hid ((HBW.out nq).grown hg2 (HSZ.out nq) (fun b hb => ((HRP.out nq).o.lt b hb).1))
                clear ho2 hg2 hA2 HRP HNEW HBW HSZ
                go_wp2
                go_roundw
                case rel => exact ⟨k + 1, p, lo.length + 1, some ⟨gb, 0, none⟩, A2, ch, c2, lh.dropLast, lo ++ [(y2, y3)], by go_num, by omega, rfl, rfl, HDL, HL1, hlo2, HP2.out, HB2.out, HREP⟩
                case measure => simp [intOf]; omega
              · rw [if_neg hbd] at hs'; cases hs'
            · rw [if_neg hk4] at hs'; cases hs'
      · rw [if_neg hy1] at hs'; cases hs'
    · have hkl : k = tr.length := by omega
      have hrep := HREP.out
      rw [hkl, List.drop_of_length_le (Nat.le_refl _)] at hrep
      injection hrep with hrep
      subst hrep
      go_wp2
      go_ret3
      have hR' := hR.out
      have e1 := HNH.out
      have e2 := HNO.out
      subst e1
      subst e2
      exact ⟨Ah, ch, Ao, co, rfl, hR'.h, hR'.o, hb⟩
end Go.Proofs.Ytfmfndpeiffehaa
