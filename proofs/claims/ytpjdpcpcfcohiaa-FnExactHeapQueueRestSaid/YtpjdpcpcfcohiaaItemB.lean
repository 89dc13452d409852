/-
  Lists of items: how memory holds them, the functions that read them, append. Conditions: memory holds the lists that are handed, within the reach of a slice.
-/
import Derived.Test.YtpjdpcpcfcohiaaNums
namespace Go.Proofs.Ytpjdpcpcfcohiaa
open Go.RowKit Go.Shelf
open Hp (g swp Ev)

/-- An item: its key and its tag. -/
abbrev It := Int × Int

def cl (x : It) : List Value := [.int .i64 x.1, .int .i64 x.2]

def cls (l : List It) : List Value := l.flatMap cl

theorem length_cls (l : List It) : (cls l).length = l.length * 2 := by
  induction l with
  | nil => rfl
  | cons x l ih => simp only [cls, List.flatMap_cons, List.length_append, List.length_cons] at *; simp [cl] at *; omega

theorem cls_append (l r : List It) : cls (l ++ r) = cls l ++ cls r := by simp [cls]

theorem cls_at (l : List It) (i : Nat) (h : i < l.length) : (cls l)[i * 2]? = some (.int .i64 (g l i).1) ∧ (cls l)[i * 2 + 1]? = some (.int .i64 (g l i).2) := by
  induction l generalizing i with
  | nil => simp at h
  | cons x l ih =>
    have e : cls (x :: l) = .int .i64 x.1 :: .int .i64 x.2 :: cls l := by simp [cls, cl]
    cases i with
    | zero => simp [e, g]
    | succ i =>
      have := ih i (by simpa using h)
      rw [e, show (i + 1) * 2 = i * 2 + 1 + 1 by omega, List.getElem?_cons_succ, List.getElem?_cons_succ, List.getElem?_cons_succ, List.getElem?_cons_succ]
      simpa [g] using this

theorem cls_set (l : List It) (i : Nat) (x : It) (h : i < l.length) : cls (l.set i x) = ((cls l).set (i * 2) (.int .i64 x.1)).set (i * 2 + 1) (.int .i64 x.2) := by
  induction l generalizing i with
  | nil => simp at h
  | cons y l ih =>
    have e : ∀ (z : It) (l : List It), cls (z :: l) = .int .i64 z.1 :: .int .i64 z.2 :: cls l := fun z l => by simp [cls, cl]
    cases i with
    | zero => simp [e]
    | succ i =>
      rw [List.set_cons_succ, e, e, ih i (by simpa using h), show (i + 1) * 2 = i * 2 + 1 + 1 by omega]
      simp

theorem cls_dropLast (l : List It) : cls l.dropLast = (cls l).take ((l.length - 1) * 2) := by
  induction l with
  | nil => rfl
  | cons x l ih =>
    have e : ∀ (z : It) (l : List It), cls (z :: l) = .int .i64 z.1 :: .int .i64 z.2 :: cls l := fun z l => by simp [cls, cl]
    cases l with
    | nil => simp [cls]
    | cons y l =>
      rw [List.dropLast_cons_cons, e, ih, e x, show ((x :: y :: l).length - 1) * 2 = ((y :: l).length - 1) * 2 + 1 + 1 by simp only [List.length_cons]; omega, List.take_succ_cons, List.take_succ_cons]

theorem cls_oneCell (l : List It) : ∀ u ∈ cls l, u.oneCell' = true := by
  intro u hu
  simp only [cls, List.mem_flatMap, cl] at hu
  obtain ⟨x, _, hx⟩ := hu
  simp at hx
  rcases hx with rfl | rfl <;> rfl

theorem Rd.at_ {w : World} {A : Option Addr} {l : List It} (h : Rd w A (cls l)) (k : Nat) (hk : k < l.length) :
    ∃ b o : Nat, A = some ⟨b, o, none⟩ ∧ b < w.heap.size ∧ w.cell? ⟨b, o + k * 2, none⟩ = some (.int .i64 (g l k).1) ∧ w.cell? ⟨b, o + k * 2 + 1, none⟩ = some (.int .i64 (g l k).2) := by
  rcases h with h | ⟨b, o, h1, h2, h3⟩
  · have := length_cls l
    rw [h] at this
    simp at this
    omega
  · exact ⟨b, o, h1, h2, h3 _ _ (cls_at l k hk).1, by rw [Nat.add_assoc]; exact h3 _ _ (cls_at l k hk).2⟩

/-- What a function that makes a new list of items leaves. -/
def NewIts (w : World) (l : List It) (e : Ending) (w' : World) : Prop :=
  ∃ A c, e = .returned (.slice A l.length c) ∧ w'.ownsRow w.heap.size 34 2 (.slice A l.length c) l.length (cls l) ∧ Below w.heap.size w w'

theorem info_item : (Try.prog.info? 34).map (fun i => (i.zero, i.size, i.bytes)) = some (some (.agg #[.int .i64 0, .int .i64 0]), 2, 16) := by kernel_rfl

theorem its_step {w1 : World} {l : List It} {k : Nat} {v1 : Value} {B : Nat} (hk : k < l.length)
    (ho : w1.ownsRow B 34 2 v1 (k + 1) (cls (l.take k) ++ [.int .i64 (g l k).1, .int .i64 (g l k).2])) :
    ∃ A c, v1 = .slice A (k + 1) c ∧ w1.ownsRow B 34 2 (.slice A (k + 1) c) (k + 1) (cls (l.take (k + 1))) := by
  obtain ⟨A, c, rfl⟩ := own_slice ho
  refine ⟨A, c, rfl, ?_⟩
  rw [take_succ_g l k hk, cls_append]
  exact ho

/-- append of a whole slice onto nil. -/
theorem run_copy_items (w : World) (A : Option Addr) (c : Nat) (l : List It) (hr : Rd w A (cls l)) (hn : l.length * 16 ≤ 211106232598528) (ty : TypeId) :
    ∃ A' c' w', (Builtin.append_ #[24, 24] ty #[.slice none 0 0, .slice A l.length c]).run Try.prog w = .ok (.slice A' l.length c') w' ∧
      w'.ownsRow w.heap.size 34 2 (.slice A' l.length c') l.length (cls l) ∧ Below w.heap.size w w' := by
  obtain ⟨i0, hi, hz0, hz1, hz2⟩ := info_parts info_item
  by_cases h0 : l = []
  · subst h0
    refine ⟨none, 0, w, ?_, World.ownsRow_nil _ _ _ _, Below.refl _ _⟩
    cases A with
    | none => simp [Builtin.append_, run_underlying Try.underlying24, sizeOf, typeInfo, hi, Builtin.lenOf, Builtin.firstCells]
    | some ad => simp [Builtin.append_, run_underlying Try.underlying24, sizeOf, typeInfo, hi, Builtin.lenOf, Builtin.firstCells, loadCells, loadCellsFrom]
  · rcases hr with h | ⟨b, o, rfl, hb, hc⟩
    · have := length_cls l
      rw [h] at this
      exact absurd (List.eq_nil_of_length_eq_zero (by simp at this; omega)) h0
    · obtain ⟨v', w', hr, h2, h3, _⟩ := run_append_own_wide (P := Try.prog) w w.heap.size 24 ty 34 i0 _ 2 16 Try.underlying24 hi hz0 hz1 hz2 rfl (by decide) (.slice none 0 0) 0 [] (World.ownsRow_nil _ _ _ _)
        ⟨b, o, none⟩ l.length c (cls l) (length_cls l) (fun j u hu => by rw [add_lit]; exact hc j u hu) (cls_oneCell l) (by simp only [maxLen]; omega) (by omega) (Nat.le_refl _)
      rw [Nat.zero_add, List.nil_append] at h2
      obtain ⟨A', c', rfl⟩ := own_slice h2
      exact ⟨A', c', w', hr, h2, (Below.refl _ _).grown h3 (Nat.le_refl _) (by simp [Value.ownBlock])⟩

theorem count_take_succ (l : List It) (k : Nat) (h : k < l.length) (x : It) : (l.take (k + 1)).count x = (l.take k).count x + if g l k = x then 1 else 0 := by
  rw [take_succ_g l k h, List.count_append]
  congr 1
  by_cases e : g l k = x
  · simp [e]
  · simp [e]

set_option maxHeartbeats 1000000 in
set_option maxRecDepth 100000 in
theorem countItem_any (w : World) (A : Option Addr) (n c : Nat) (l : List It) (x : It) (hl : n = l.length) (hr : Rd w A (cls l)) (hn : l.length * 16 ≤ 211106232598528) :
    Calls Try.prog 43 #[.slice A n c, .agg #[.int .i64 x.1, .int .i64 x.2]] w (Gives w (.int .i64 (l.count x : Nat))) := by
  subst hl
  obtain ⟨x1, x2⟩ := x
  go_enter Try.func43, Try.ntmps43
  go_wp2
  have hr' := hr.below ((Below.refl w.heap.size w).alloc (Nat.le_refl _) (.cells #[.int .i64 x1, .int .i64 x2] 34)) (Nat.le_refl _)
  go_loopw [5, 10] (fun s5 s10 wr => ∃ (k : Nat), s10 = .int .i64 (k : Int) ∧ k ≤ l.length ∧ s5 = .int .i64 (((l.take k).count (x1, x2) : Nat) : Int) ∧ Below (w.heap.size + 1) (w.alloc (.cells #[.int .i64 x1, .int .i64 x2] 34)) wr)
    (fun _ s10 _ => l.length - (intOf s10).toNat)
  case atStart => exact ⟨0, rfl, by omega, by simp, Below.refl _ _⟩
  case round =>
    obtain ⟨k, rfl, hk, rfl, hb⟩ := hrel
    have hsz := hb.size
    rw [heap_size_alloc] at hsz
    have hx1 : wr.cell? ⟨w.heap.size, 0, none⟩ = some (.int .i64 x1) := by
      rw [hb.cell (p := ⟨w.heap.size, 0, none⟩) (by simp)]; simp
    have hx2 : wr.cell? ⟨w.heap.size, 1, none⟩ = some (.int .i64 x2) := by
      rw [hb.cell (p := ⟨w.heap.size, 1, none⟩) (by simp)]; simp
    have hcl := List.count_le_length (a := (x1, x2)) (l := l.take k)
    have hcl2 := List.length_take_le k l
    by_cases hlt : k < l.length
    · obtain ⟨b, o, rfl, hbb, h1, h2⟩ := (hr'.below hb (by rw [heap_size_alloc]; exact Nat.le_refl _)).at_ k hlt
      have hcs := count_take_succ l k hlt (x1, x2)
      obtain ⟨⟨y1, y2⟩, hy⟩ : ∃ y, g l k = y := ⟨_, rfl⟩
      rw [hy] at h1 h2 hcs
      have HCS := Lib.hid hcs
      clear hr hr' hy hcs
      have hz : w.heap.size < wr.heap.size := by omega
      by_cases he1 : y1 = x1
      · by_cases he2 : y2 = x2
        · subst he1
          subst he2
          go_wp2
          go_roundw
          case rel => exact ⟨k + 1, by go_num, by omega, by rw [HCS.out]; simp, hb.alloc (by omega) _⟩
          case measure => simp [intOf]; omega
        · subst he1
          have hq : (y2 == x2) = false := by simpa using he2
          have HN : Hid (¬ (y1, y2) = (y1, x2)) := by intro h; injection h with _ h; exact he2 h
          clear he2
          go_wp2
          go_roundw
          case rel => exact ⟨k + 1, by go_num, by omega, by rw [HCS.out, if_neg HN.out]; simp, hb.alloc (by omega) _⟩
          case measure => simp [intOf]; omega
      · have hq : (y1 == x1) = false := by simpa using he1
        have HN : Hid (¬ (y1, y2) = (x1, x2)) := by intro h; injection h with h _; exact he1 h
        clear he1
        go_wp2
        go_roundw
        case rel => exact ⟨k + 1, by go_num, by omega, by rw [HCS.out, if_neg HN.out]; simp, hb.alloc (by omega) _⟩
        case measure => simp [intOf]; omega
    · go_wp2
      go_ret
      refine ⟨?_, ((Below.refl _ _).alloc (Nat.le_refl _) _).trans (hb.mono (by omega))⟩
      rw [List.take_of_length_le (by omega)]
      rfl

set_option maxHeartbeats 2000000 in
set_option maxRecDepth 100000 in
theorem sameElements_perm (w : World) (A1 A2 : Option Addr) (n1 n2 c1 c2 : Nat) (la lb : List It) (hla : n1 = la.length) (hlb : n2 = lb.length) (hp : la.Perm lb) (hra : Rd w A1 (cls la)) (hrb : Rd w A2 (cls lb)) (hn : la.length * 16 ≤ 211106232598528) :
    Calls Try.prog 27 #[.slice A1 n1 c1, .slice A2 n2 c2] w (Gives w (.bool true)) := by
  have hnn : n2 = n1 := by rw [hla, hlb, hp.length_eq]
  subst hnn
  have hcount : ∀ x, la.count x = lb.count x := fun x => hp.count_eq x
  have HC := Lib.hid hcount
  have HLA := Lib.hid hla
  have HLB := Lib.hid hlb
  have HRA := Lib.hid hra
  have HRB := Lib.hid hrb
  have hn2 : n2 * 16 ≤ 211106232598528 := by rw [hla]; exact hn
  clear hp hcount hla hlb hra hrb hn
  go_enter Try.func27, Try.ntmps27
  go_wp2
  go_loopw [14] (fun s14 wr => ∃ (k : Nat), s14 = .int .i64 (k : Int) ∧ k ≤ n2 ∧ Below w.heap.size w wr) (fun s14 _ => n2 - (intOf s14).toNat)
  case atStart => exact ⟨0, rfl, by omega, Below.refl _ _⟩
  case round =>
    obtain ⟨k, rfl, hk, hb⟩ := hrel
    have hsz := hb.size
    by_cases hlt : k < n2
    · obtain ⟨b, o, rfl, hbb, h1, h2⟩ := (HRA.out.below hb (Nat.le_refl _)).at_ k (by rw [← HLA.out]; exact hlt)
      obtain ⟨⟨y1, y2⟩, hy⟩ : ∃ y, g la k = y := ⟨_, rfl⟩
      rw [hy] at h1 h2
      clear hy
      go_wp2_with fail
      go_region_held3 (fun w' => w'.cell? ⟨wr.heap.size, 0, none⟩ = some (.int .i64 y1) ∧ w'.cell? ⟨wr.heap.size, 1, none⟩ = some (.int .i64 y2))
        (first
          | go_keep
          | exact ⟨kb1, kb2⟩
          | exact ⟨ka1, ka2⟩)
        (first
          | (go_at_call 43
             ((with_reducible refine (countItem_any _ (some ⟨b, o, none⟩) _ c1 la (y1, y2) HLA.out ?_ ?_).mono ?_)
              · exact HRA.out.below (hb.alloc hsz _).drew (Nat.le_refl _)
              · rw [← HLA.out]; exact hn2
              rintro e w1 ⟨rfl, hb1⟩
              have ka1 : w1.cell? ⟨wr.heap.size, 0, none⟩ = some (.int .i64 y1) := by rw [hb1.cell (by simp)]; simp
              have ka2 : w1.cell? ⟨wr.heap.size, 1, none⟩ = some (.int .i64 y2) := by rw [hb1.cell (by simp)]; simp
              have hs1 : wr.heap.size < w1.heap.size := by have := hb1.size; simp at this; omega))
          | (go_at_call 43
             ((with_reducible refine (countItem_any _ A2 _ c2 lb (y1, y2) HLB.out ?_ ?_).mono ?_)
              · exact (HRB.out.below (hb.alloc hsz _).drew (Nat.le_refl _)).below hb1 (Nat.le_refl _)
              · rw [← HLB.out]; exact hn2
              rintro e w2 ⟨rfl, hb2⟩
              have kb1 : w2.cell? ⟨wr.heap.size, 0, none⟩ = some (.int .i64 y1) := (hb2.cell (p := ⟨wr.heap.size, 0, none⟩) hs1).trans ka1
              have kb2 : w2.cell? ⟨wr.heap.size, 1, none⟩ = some (.int .i64 y2) := (hb2.cell (p := ⟨wr.heap.size, 1, none⟩) hs1).trans ka2)))
      have hcc : (((la.count (y1, y2) : Nat) : Int) != ((lb.count (y1, y2) : Nat) : Int)) = false := by rw [HC.out]; simp
      have hb3 : Below w.heap.size w w2 := ((hb.alloc hsz _).drew.trans (hb1.mono (by simp; omega))).trans (hb2.mono (by omega))
      clear hb1 hb2 hb kb1 kb2 ka1 ka2
      go_wp2
      go_roundw
      case rel => exact ⟨k + 1, by go_num, by omega, hb3⟩
      case measure => simp [intOf]; omega
    · go_wp2
      go_ret
      exact ⟨rfl, hb⟩

set_option maxHeartbeats 1000000 in
set_option maxRecDepth 100000 in
theorem sameItems_eq (w : World) (A1 A2 : Option Addr) (n1 n2 c1 c2 : Nat) (l : List It) (hl1 : n1 = l.length) (hl2 : n2 = l.length) (hr1 : Rd w A1 (cls l)) (hr2 : Rd w A2 (cls l)) (hn : l.length * 16 ≤ 211106232598528) :
    Calls Try.prog 30 #[.slice A1 n1 c1, .slice A2 n2 c2] w (Gives w (.bool true)) := by
  subst hl1
  subst hl2
  go_enter Try.func30, Try.ntmps30
  go_wp2
  go_loopw [13] (fun s13 wr => ∃ (k q : Nat), s13 = .int .i64 (k : Int) ∧ k ≤ l.length ∧ wr = w.drewN q) (fun s13 _ => l.length - (intOf s13).toNat)
  case atStart => exact ⟨0, 0, rfl, by omega, rfl⟩
  case round =>
    obtain ⟨k, q, rfl, hk, rfl⟩ := hrel
    by_cases hlt : k < l.length
    · obtain ⟨b, o, rfl, hbb, h1, h2⟩ := hr1.at_ k hlt
      obtain ⟨b', o', rfl, hbb', h1', h2'⟩ := hr2.at_ k hlt
      obtain ⟨⟨y1, y2⟩, hy⟩ : ∃ y, g l k = y := ⟨_, rfl⟩
      rw [hy] at h1 h2 h1' h2'
      clear hy hr1 hr2
      go_wp2_with fail
      go_quiet (fail)
      go_wp2
      go_roundw
      case rel => exact ⟨k + 1, q + nq, by go_num, by omega, rfl⟩
      case measure => simp [intOf]; omega
    · go_wp2
      go_ret
      exact ⟨rfl, below_drewN (Below.refl _ _) _⟩

/-- append of one item onto an own slice. -/
theorem run_append_item {w : World} {B : Nat} {v : Value} {l : List It} (ho : w.ownsRow B 34 2 v l.length (cls l)) (x : It) (gs : Nat) (hg : w.heap[gs]? = some (.cells #[.int .i64 x.1, .int .i64 x.2] 34 (0, 0)))
    (hn : (l.length + 1) * 16 ≤ 211106232598528) (hB : B ≤ w.heap.size) (ty : TypeId) :
    ∃ A' c' w', (Builtin.append_ #[24, 24] ty #[v, .slice (some ⟨gs, 0, none⟩) 1 1]).run Try.prog w = .ok (.slice A' (l.length + 1) c') w' ∧
      w'.ownsRow B 34 2 (.slice A' (l.length + 1) c') (l.length + 1) (cls (l ++ [x])) ∧ w.grownBy w' v.ownBlock := by
  obtain ⟨i0, hi, hz0, hz1, hz2⟩ := info_parts info_item
  obtain ⟨v', w', hr, h2, h3, _⟩ := run_append_own_wide (P := Try.prog) w B 24 ty 34 i0 _ 2 16 Try.underlying24 hi hz0 hz1 hz2 rfl (by decide) v l.length (cls l) ho
    ⟨gs, 0, none⟩ 1 1 [.int .i64 x.1, .int .i64 x.2] rfl (World.news_of_block (cs := #[.int .i64 x.1, .int .i64 x.2]) (t := 34) (fr := (0, 0)) hg) (by simp [Value.oneCell']) (by simp only [maxLen]; omega) (wide_fits16 hn) hB
  obtain ⟨A', c', rfl⟩ := own_slice h2
  exact ⟨A', c', w', hr, by rw [cls_append]; exact h2, h3⟩

theorem wp_copy_items {w : World} {o : Oper} {a : Act} {K : Act → World → Prop} {Q : Exit → Act → World → Prop} (s x : Operand)
    (ho : o.op = .call { callee := .builtin .append, args := #[s, x], argTypes := #[24, 24] }) (A : Option Addr) (n c : Nat) (l : List It) (hl : n = l.length) (hs : a.eval s = .slice none 0 0) (hx : a.eval x = .slice A n c)
    (hr : Rd w A (cls l)) (hn : l.length * 16 ≤ 211106232598528)
    (h : ∀ A' c' w', w'.ownsRow w.heap.size 34 2 (.slice A' l.length c') l.length (cls l) → Below w.heap.size w w' → K (a.put o.dst (.slice A' l.length c')) w') : o.wp Try.prog a w K Q := by
  subst hl
  obtain ⟨A', c', w', hrun, h1, h2⟩ := run_copy_items w A c l hr hn o.type
  exact wp_append_run s x _ ho _ _ _ _ hs hx hrun (h A' c' w' h1 h2)

theorem wp_append_item {w : World} {o : Oper} {a : Act} {K : Act → World → Prop} {Q : Exit → Act → World → Prop} (s x : Operand)
    (ho : o.op = .call { callee := .builtin .append, args := #[s, x], argTypes := #[24, 24] }) (v : Value) (B : Nat) (l : List It) (y : It) (gs : Nat) (hs : a.eval s = v) (hx : a.eval x = .slice (some ⟨gs, 0, none⟩) 1 1)
    (hown : w.ownsRow B 34 2 v l.length (cls l)) (hg : w.heap[gs]? = some (.cells #[.int .i64 y.1, .int .i64 y.2] 34 (0, 0)))
    (hn : (l.length + 1) * 16 ≤ 211106232598528) (hB : B ≤ w.heap.size)
    (h : ∀ A' c' w', w'.ownsRow B 34 2 (.slice A' (l.length + 1) c') (l.length + 1) (cls (l ++ [y])) → w.grownBy w' v.ownBlock → K (a.put o.dst (.slice A' (l.length + 1) c')) w') : o.wp Try.prog a w K Q := by
  obtain ⟨A', c', w', hrun, h1, h2⟩ := run_append_item hown y gs hg hn hB o.type
  exact wp_append_run s x _ ho _ _ _ _ hs hx hrun (h A' c' w' h1 h2)

set_option maxHeartbeats 1000000 in
set_option maxRecDepth 100000 in
theorem withItem_any (w : World) (A : Option Addr) (n c : Nat) (l : List It) (x : It) (hl : n = l.length) (hr : Rd w A (cls l)) (hn : (l.length + 1) * 16 ≤ 211106232598528) :
    Calls Try.prog 28 #[.slice A n c, .agg #[.int .i64 x.1, .int .i64 x.2]] w (NewIts w (l ++ [x])) := by
  subst hl
  obtain ⟨x1, x2⟩ := x
  have hrw : ∀ W, Below w.heap.size w W → Rd W A (cls l) := fun W hW => hr.below hW (Nat.le_refl _)
  have HRW := Lib.hid hrw
  clear hrw hr
  have h00 := (Below.refl w.heap.size w).alloc (Nat.le_refl _) (.cells #[.int .i64 x1, .int .i64 x2] 34)
  have H00 := Lib.hid h00.drew
  have H01 := Lib.hid (h00.drew.alloc (by simp [World.drew]) (.cells #[.int .i64 x1, .int .i64 x2] 34))
  clear h00
  go_enter Try.func28, Try.ntmps28
  go_wp2
  go_region_held3 (fun w' => w'.cell? ⟨w.heap.size, 0, none⟩ = some (.int .i64 x1) ∧ w'.cell? ⟨w.heap.size, 1, none⟩ = some (.int .i64 x2))
    (first
      | go_keep
      | exact ⟨ka3, ka4⟩
      | exact ⟨ka1, ka2⟩)
    (first
      | (refine wanted_plain rfl (wp_copy_items (.const (.slice none 0 0)) (.tmp 5) rfl A l.length c l rfl (by simp [Act.eval]) (by simp [Act.eval]) ?_ ?_ ?_)
         · exact HRW.out _ (by first | exact H00.out | exact H01.out)
         · omega
         intro A1 c1 w1 ho1 hb1
         have ka1 : w1.cell? ⟨w.heap.size, 0, none⟩ = some (.int .i64 x1) := by rw [hb1.cell (by simp [World.drew]; try omega)]; simp
         have ka2 : w1.cell? ⟨w.heap.size, 1, none⟩ = some (.int .i64 x2) := by rw [hb1.cell (by simp [World.drew]; try omega)]; simp
         have hs1 := hb1.size
         have hz1 : w.heap.size < w1.heap.size := by simp [World.drew] at hs1; omega
         have hne1 : some w.heap.size ≠ (Value.slice A1 l.length c1).ownBlock := by intro e; have := (ho1.lt _ e.symm).1; simp [World.drew] at this; omega)
      | (refine wanted_plain rfl (wp_append_item (.tmp 6) (.tmp 8) rfl (.slice A1 l.length c1) (w.heap.size + 1) l (x1, x2) w1.heap.size (by simp [Act.eval]) (by simp [Act.eval]) ?_ ?_ ?_ ?_ ?_)
         · exact own_base (ho1.alloc _) (by simp [World.drew])
         · exact heap_alloc_new _ _
         · omega
         · simp [World.drew] at hs1 ⊢; omega
         intro A2 c2 w2 ho2 hg2
         have hb2 : Below w.heap.size w w2 := ((H00.out.trans (hb1.mono (by simp [World.drew]))).alloc (by simp [World.drew] at hs1 ⊢; omega) _).grown hg2 (by simp [World.drew] at hs1 ⊢; omega) (fun k hk => by have := (ho1.lt k hk).1; simp [World.drew] at this; omega)
         have ka3 := hg2.cell ((World.cell?_alloc_lt _ _ ⟨w.heap.size, 0, none⟩ hz1).trans ka1) hne1
         have ka4 := hg2.cell ((World.cell?_alloc_lt _ _ ⟨w.heap.size, 1, none⟩ hz1).trans ka2) hne1)
      | (refine wanted_plain rfl (wp_append_item (.tmp 6) (.tmp 8) rfl (.slice A1 l.length c1) (w.heap.size + 1) l (x1, x2) (w.heap.size + 1) (by simp [Act.eval]) (by simp [Act.eval]) ?_ ?_ ?_ ?_ ?_)
         · exact own_base ho1 (by simp [World.drew])
         · rw [hb1.block _ (by simp [World.drew])]; have hz := heap_alloc_new (w.alloc (.cells #[.int .i64 x1, .int .i64 x2] 34)) (.cells #[.int .i64 x1, .int .i64 x2] 34); rw [heap_size_alloc] at hz; exact hz
         · omega
         · simp [World.drew] at hs1 ⊢; omega
         intro A2 c2 w2 ho2 hg2
         have hb2 : Below w.heap.size w w2 := (H01.out.trans (hb1.mono (by simp [World.drew]; omega))).grown hg2 (by simp [World.drew] at hs1 ⊢; omega) (fun k hk => by have := (ho1.lt k hk).1; simp [World.drew] at this; omega)
         have ka3 := hg2.cell ka1 hne1
         have ka4 := hg2.cell ka2 hne1))
  all_goals
    have HO2 := Lib.hid ho2
    have HB2 := Lib.hid hb2
    clear ho2 hb2 hg2 ho1 hb1 ka1 ka2 ka3 ka4 hne1 hs1
    go_wp2
    go_ret
    exact ⟨A2, c2, by simp, own_base (by simpa using HO2.out) (by omega), HB2.out⟩

theorem erase_keep (l : List It) (x y : It) (h : x ∈ l ∨ ¬ y = x) : (l ++ [y]).erase x = l.erase x ++ [y] := by
  by_cases hm : x ∈ l
  · rw [List.erase_append_left _ hm]
  · have hy : ¬ y = x := h.resolve_left hm
    rw [List.erase_append_right _ hm, List.erase_cons_tail (by simpa using hy), List.erase_of_not_mem hm]
    simp

theorem erase_drop (l : List It) (x : It) (h : ¬ x ∈ l) : (l ++ [x]).erase x = l.erase x := by
  rw [List.erase_append_right _ h, List.erase_of_not_mem h]
  simp

theorem wpList_append_item {w : World} {ops : Array Oper} {rest : List Oper} {o : Oper} {a : Act} {Q : Exit → Act → World → Prop} (hgd : o.guard = none) (s x : Operand)
    (ho : o.op = .call { callee := .builtin .append, args := #[s, x], argTypes := #[24, 24] }) (v : Value) (B : Nat) (l : List It) (y : It) (gs : Nat) (hs : a.eval s = v) (hx : a.eval x = .slice (some ⟨gs, 0, none⟩) 1 1)
    (hown : w.ownsRow B 34 2 v l.length (cls l)) (hg : w.heap[gs]? = some (.cells #[.int .i64 y.1, .int .i64 y.2] 34 (0, 0)))
    (hn : (l.length + 1) * 16 ≤ 211106232598528) (hB : B ≤ w.heap.size)
    (h : ∀ A' c' w', w'.ownsRow B 34 2 (.slice A' (l.length + 1) c') (l.length + 1) (cls (l ++ [y])) → w.grownBy w' v.ownBlock → wpList Try.prog ops Q rest (a.put o.dst (.slice A' (l.length + 1) c')) w') : wpList Try.prog ops Q (o :: rest) a w :=
  wpList_plain hgd fun _ hK => wp_append_item s x ho v B l y gs hs hx hown hg hn hB fun A' c' w' h1 h2 => hK _ _ (h A' c' w' h1 h2)

/-- A Bool that tells whether an item is in a list. -/
def MemB (b : Bool) (x : It) (l : List It) : Prop := b = true ↔ x ∈ l

set_option maxHeartbeats 2000000 in
set_option maxRecDepth 100000 in
theorem withoutItem_any (w : World) (A : Option Addr) (n c : Nat) (l : List It) (x : It) (hl : n = l.length) (hr : Rd w A (cls l)) (hn : l.length * 16 ≤ 211106232598528) :
    Calls Try.prog 29 #[.slice A n c, .agg #[.int .i64 x.1, .int .i64 x.2]] w (NewIts w (l.erase x)) := by
  subst hl
  obtain ⟨x1, x2⟩ := x
  have hr' := hr.below ((Below.refl w.heap.size w).alloc (Nat.le_refl _) (.cells #[.int .i64 x1, .int .i64 x2] 34)) (Nat.le_refl _)
  clear hr
  go_enter Try.func29, Try.ntmps29
  go_wp2
  go_loopw [5, 6, 11] (fun s5 s6 s11 wr => ∃ (k m : Nat) (A' : Option Addr) (c' : Nat) (bb : Bool), s11 = .int .i64 (k : Int) ∧ k ≤ l.length ∧ s6 = .bool bb ∧ MemB bb (x1, x2) (l.take k) ∧ s5 = .slice A' m c' ∧ m ≤ k ∧ Hid (m = ((l.take k).erase (x1, x2)).length) ∧
      Aside (wr.ownsRow (w.heap.size + 1) 34 2 (.slice A' m c') m (cls ((l.take k).erase (x1, x2)))) ∧ Below (w.heap.size + 1) (w.alloc (.cells #[.int .i64 x1, .int .i64 x2] 34)) wr)
    (fun _ _ s11 _ => l.length - (intOf s11).toNat)
  case atStart => exact ⟨0, 0, none, 0, false, rfl, by omega, rfl, by simp [MemB], rfl, by omega, by simp [Hid], World.ownsRow_nil _ _ _ _, Below.refl _ _⟩
  case round =>
    obtain ⟨k, m, A', c', bb, rfl, hk, rfl, HBB, rfl, hmk, HM, hown, hb⟩ := hrel
    have hsz := hb.size
    rw [heap_size_alloc] at hsz
    have hx1 : wr.cell? ⟨w.heap.size, 0, none⟩ = some (.int .i64 x1) := by
      rw [hb.cell (p := ⟨w.heap.size, 0, none⟩) (by simp)]; simp
    have hx2 : wr.cell? ⟨w.heap.size, 1, none⟩ = some (.int .i64 x2) := by
      rw [hb.cell (p := ⟨w.heap.size, 1, none⟩) (by simp)]; simp
    have hz : w.heap.size < wr.heap.size := by omega
    by_cases hlt : k < l.length
    · obtain ⟨b, o, rfl, hbb, h1, h2⟩ := (hr'.below hb (by rw [heap_size_alloc]; exact Nat.le_refl _)).at_ k hlt
      have htk := take_succ_g l k hlt
      obtain ⟨⟨y1, y2⟩, hy⟩ : ∃ y, g l k = y := ⟨_, rfl⟩
      rw [hy] at h1 h2 htk
      have HTK := Lib.hid htk
      clear hr' hy htk
      by_cases he1 : y1 = x1
      · by_cases he2 : y2 = x2
        · subst he1
          subst he2
          cases bb with
          | false =>
            have hnm : ¬ (y1, y2) ∈ l.take k := fun h => by have := HBB.2 h; cases this
            have hed : (l.take (k + 1)).erase (y1, y2) = (l.take k).erase (y1, y2) := by rw [HTK.out]; exact erase_drop _ _ hnm
            have HED := Lib.hid hed
            have HMM : MemB true (y1, y2) (l.take (k + 1)) := by unfold MemB; rw [HTK.out]; simp
            clear hed hnm
            go_wp2
            go_roundw
            case rel => exact ⟨k + 1, m, A', c', true, by go_num, by omega, rfl, HMM, rfl, by omega, by rw [HED.out]; exact HM, by rw [HED.out]; exact hown.out.alloc _, hb.alloc hsz _⟩
            case measure => simp [intOf]; omega
          | true =>
            have hek : (l.take (k + 1)).erase (y1, y2) = (l.take k).erase (y1, y2) ++ [(y1, y2)] := by rw [HTK.out]; exact erase_keep _ _ _ (.inl (HBB.1 rfl))
            have HEK := Lib.hid hek
            have HMM : MemB true (y1, y2) (l.take (k + 1)) := by unfold MemB; rw [HTK.out]; simp
            clear hek
            have how := (hown.out.alloc (.cells #[.int .i64 y1, .int .i64 y2] 34)).alloc (.cells #[.int .i64 y1, .int .i64 y2] 34)
            rw [HM.out] at how
            have HOW := Lib.hid how
            have hzz := heap_alloc_new (wr.alloc (.cells #[.int .i64 y1, .int .i64 y2] 34)) (.cells #[.int .i64 y1, .int .i64 y2] 34)
            rw [heap_size_alloc] at hzz
            have HZZ := Lib.hid hzz
            have HLE := Lib.hid (show (((l.take k).erase (y1, y2)).length + 1) * 16 ≤ 211106232598528 by rw [← HM.out]; omega)
            have HLB := Lib.hid (show w.heap.size + 1 ≤ ((wr.alloc (.cells #[.int .i64 y1, .int .i64 y2] 34)).alloc (.cells #[.int .i64 y1, .int .i64 y2] 34)).heap.size by simp; omega)
            clear how hzz
            go_wp2_with (at_builtin; refine wpList_append_item rfl _ _ rfl _ (w.heap.size + 1) ((l.take k).erase (y1, y2)) (y1, y2) (wr.heap.size + 1) (by rw [← HM.out]; rfl) rfl HOW.out HZZ.out HLE.out HLB.out ?_)
            intro A2 c2 w2 ho2 hg2
            rw [← HM.out, ← HEK.out] at ho2
            have hb2 : Below (w.heap.size + 1) (w.alloc (.cells #[.int .i64 y1, .int .i64 y2] 34)) w2 := ((hb.alloc hsz _).alloc (by simp; omega) _).grown hg2 (by simp; omega) (fun kk hkk => (hown.out.lt kk (by rw [HM.out]; exact hkk)).1)
            have H2 : Aside (w2.ownsRow (w.heap.size + 1) 34 2 (.slice A2 (m + 1) c2) (m + 1) (cls ((l.take (k + 1)).erase (y1, y2)))) := ho2
            have HM2 : Hid (m + 1 = ((l.take (k + 1)).erase (y1, y2)).length) := by rw [HEK.out, List.length_append, ← HM.out]; rfl
            rw [← HM.out]
            clear ho2 hg2 hown hb h1 h2 hx1 hx2
            go_wp2
            go_roundw
            case rel => exact ⟨k + 1, m + 1, A2, c2, true, by go_num, by omega, rfl, HMM, rfl, by omega, HM2, H2, hb2⟩
            case measure => simp [intOf]; omega
        · subst he1
          have hq : (y2 == x2) = false := by simpa using he2
          have hek : (l.take (k + 1)).erase (y1, x2) = (l.take k).erase (y1, x2) ++ [(y1, y2)] := by rw [HTK.out]; exact erase_keep _ _ _ (.inr (fun h => by injection h with _ h; exact he2 h))
          have HEK := Lib.hid hek
          have HMM : MemB bb (y1, x2) (l.take (k + 1)) := by unfold MemB; rw [HTK.out]; rw [show (bb = true ↔ _) from HBB]; simp [Ne.symm he2]
          clear hek
          have how := (hown.out.alloc (.cells #[.int .i64 y1, .int .i64 y2] 34)).alloc (.cells #[.int .i64 y1, .int .i64 y2] 34)
          rw [HM.out] at how
          have HOW := Lib.hid how
          have hzz := heap_alloc_new (wr.alloc (.cells #[.int .i64 y1, .int .i64 y2] 34)) (.cells #[.int .i64 y1, .int .i64 y2] 34)
          rw [heap_size_alloc] at hzz
          have HZZ := Lib.hid hzz
          have HLE := Lib.hid (show (((l.take k).erase (y1, x2)).length + 1) * 16 ≤ 211106232598528 by rw [← HM.out]; omega)
          have HLB := Lib.hid (show w.heap.size + 1 ≤ ((wr.alloc (.cells #[.int .i64 y1, .int .i64 y2] 34)).alloc (.cells #[.int .i64 y1, .int .i64 y2] 34)).heap.size by simp; omega)
          clear how hzz
          go_wp2_with (at_builtin; refine wpList_append_item rfl _ _ rfl _ (w.heap.size + 1) ((l.take k).erase (y1, x2)) (y1, y2) (wr.heap.size + 1) (by rw [← HM.out]; rfl) rfl HOW.out HZZ.out HLE.out HLB.out ?_)
          intro A2 c2 w2 ho2 hg2
          rw [← HM.out, ← HEK.out] at ho2
          have hb2 : Below (w.heap.size + 1) (w.alloc (.cells #[.int .i64 y1, .int .i64 x2] 34)) w2 := ((hb.alloc hsz _).alloc (by simp; omega) _).grown hg2 (by simp; omega) (fun kk hkk => (hown.out.lt kk (by rw [HM.out]; exact hkk)).1)
          have H2 : Aside (w2.ownsRow (w.heap.size + 1) 34 2 (.slice A2 (m + 1) c2) (m + 1) (cls ((l.take (k + 1)).erase (y1, x2)))) := ho2
          have HM2 : Hid (m + 1 = ((l.take (k + 1)).erase (y1, x2)).length) := by rw [HEK.out, List.length_append, ← HM.out]; rfl
          rw [← HM.out]
          clear ho2 hg2 hown hb h1 h2 hx1 hx2
          go_wp2
          go_roundw
          case rel => exact ⟨k + 1, m + 1, A2, c2, bb, by go_num, by omega, rfl, HMM, rfl, by omega, HM2, H2, hb2⟩
          case measure => simp [intOf]; omega
      · have hq : (y1 == x1) = false := by simpa using he1
        have hek : (l.take (k + 1)).erase (x1, x2) = (l.take k).erase (x1, x2) ++ [(y1, y2)] := by rw [HTK.out]; exact erase_keep _ _ _ (.inr (fun h => by injection h with h _; exact he1 h))
        have HEK := Lib.hid hek
        have HMM : MemB bb (x1, x2) (l.take (k + 1)) := by unfold MemB; rw [HTK.out]; rw [show (bb = true ↔ _) from HBB]; simp [Ne.symm he1]
        clear hek
        have how := (hown.out.alloc (.cells #[.int .i64 y1, .int .i64 y2] 34)).alloc (.cells #[.int .i64 y1, .int .i64 y2] 34)
        rw [HM.out] at how
        have HOW := Lib.hid how
        have hzz := heap_alloc_new (wr.alloc (.cells #[.int .i64 y1, .int .i64 y2] 34)) (.cells #[.int .i64 y1, .int .i64 y2] 34)
        rw [heap_size_alloc] at hzz
        have HZZ := Lib.hid hzz
        have HLE := Lib.hid (show (((l.take k).erase (x1, x2)).length + 1) * 16 ≤ 211106232598528 by rw [← HM.out]; omega)
        have HLB := Lib.hid (show w.heap.size + 1 ≤ ((wr.alloc (.cells #[.int .i64 y1, .int .i64 y2] 34)).alloc (.cells #[.int .i64 y1, .int .i64 y2] 34)).heap.size by simp; omega)
        clear how hzz
        go_wp2_with (at_builtin; refine wpList_append_item rfl _ _ rfl _ (w.heap.size + 1) ((l.take k).erase (x1, x2)) (y1, y2) (wr.heap.size + 1) (by rw [← HM.out]; rfl) rfl HOW.out HZZ.out HLE.out HLB.out ?_)
        intro A2 c2 w2 ho2 hg2
        rw [← HM.out, ← HEK.out] at ho2
        have hb2 : Below (w.heap.size + 1) (w.alloc (.cells #[.int .i64 x1, .int .i64 x2] 34)) w2 := ((hb.alloc hsz _).alloc (by simp; omega) _).grown hg2 (by simp; omega) (fun kk hkk => (hown.out.lt kk (by rw [HM.out]; exact hkk)).1)
        have H2 : Aside (w2.ownsRow (w.heap.size + 1) 34 2 (.slice A2 (m + 1) c2) (m + 1) (cls ((l.take (k + 1)).erase (x1, x2)))) := ho2
        have HM2 : Hid (m + 1 = ((l.take (k + 1)).erase (x1, x2)).length) := by rw [HEK.out, List.length_append, ← HM.out]; rfl
        rw [← HM.out]
        clear ho2 hg2 hown hb h1 h2 hx1 hx2
        go_wp2
        go_roundw
        case rel => exact ⟨k + 1, m + 1, A2, c2, bb, by go_num, by omega, rfl, HMM, rfl, by omega, HM2, H2, hb2⟩
        case measure => simp [intOf]; omega
    · go_wp2
      go_ret
      have hkl : k = l.length := by omega
      have ho := hown.out
      rw [hkl, List.take_of_length_le (Nat.le_refl _)] at ho
      have hm := HM.out
      rw [hkl, List.take_of_length_le (Nat.le_refl _)] at hm
      rw [hm] at ho
      exact ⟨A', c', by rw [hm]; rfl, own_base ho (by omega), ((Below.refl _ _).alloc (Nat.le_refl _) _).trans (hb.mono (by omega))⟩

set_option maxHeartbeats 1000000 in
set_option maxRecDepth 100000 in
theorem keysOf_any (w : World) (A : Option Addr) (n c : Nat) (l : List It) (hl : n = l.length) (hr : Rd w A (cls l)) (hn : l.length ≤ 26388279066624) :
    Calls Try.prog 26 #[.slice A n c] w (NewInts w (l.map Prod.fst)) := by
  subst hl
  go_enter Try.func26, Try.ntmps26
  go_wp2
  go_loopw [3, 8] (fun s3 s8 wr => ∃ (k : Nat) (A' : Option Addr) (c' : Nat), s8 = .int .i64 (k : Int) ∧ k ≤ l.length ∧ s3 = .slice A' k c' ∧ Aside (wr.ownsRow w.heap.size 3 1 (.slice A' k c') k (clsN ((l.take k).map Prod.fst))) ∧ Below w.heap.size w wr)
    (fun _ s8 _ => l.length - (intOf s8).toNat)
  case atStart => exact ⟨0, none, 0, rfl, by omega, rfl, World.ownsRow_nil _ _ _ _, Below.refl _ _⟩
  case round =>
    obtain ⟨k, A', c', rfl, hk, rfl, hown, hb⟩ := hrel
    have hsz := hb.size
    by_cases hlt : k < l.length
    · obtain ⟨b, o, rfl, hbb, h1, h2⟩ := (hr.below hb (Nat.le_refl _)).at_ k hlt
      clear hr
      have htk := take_succ_g l k hlt
      obtain ⟨⟨x, y⟩, hx⟩ : ∃ x, g l k = x := ⟨_, rfl⟩
      rw [hx] at h1 h2 htk
      have HTK := Lib.hid htk
      obtain ⟨L, hL⟩ : ∃ L, L = (l.take k).map Prod.fst := ⟨_, rfl⟩
      have hLl : k = L.length := by rw [hL]; simp; omega
      have hE : L ++ [x] = (l.take (k + 1)).map Prod.fst := by rw [HTK.out, hL]; simp
      have how := (hown.out.alloc (.cells #[.int .i64 x, .int .i64 y] 34)).alloc (.cells #[.int .i64 x] 3)
      rw [← hL, hLl] at how
      have HOW := Lib.hid how
      have HLL := Lib.hid hLl
      have HE := Lib.hid hE
      have hzz := heap_alloc_new (wr.alloc (.cells #[.int .i64 x, .int .i64 y] 34)) (.cells #[.int .i64 x] 3)
      rw [heap_size_alloc] at hzz
      have HZZ := Lib.hid hzz
      have HLE := Lib.hid (show L.length + 1 ≤ 26388279066624 by rw [← hLl]; omega)
      have HLB := Lib.hid (show w.heap.size ≤ ((wr.alloc (.cells #[.int .i64 x, .int .i64 y] 34)).alloc (.cells #[.int .i64 x] 3)).heap.size by simp; omega)
      clear hx htk hL hLl hE how hzz
      go_wp2_with (at_builtin; refine wpList_append_int rfl _ _ rfl _ w.heap.size L x (wr.heap.size + 1) (by rw [← HLL.out]; rfl) rfl HOW.out HZZ.out HLE.out HLB.out ?_)
      intro A1 c1 w1 ho1 hg1 _
      have hb1 : Below w.heap.size w w1 := ((hb.alloc hsz _).alloc (by simp; omega) _).grown hg1 (by simp; omega) (fun kk hkk => (hown.out.lt kk (by rw [HLL.out]; exact hkk)).1)
      rw [HE.out, ← HLL.out] at ho1
      have H2 : Aside (w1.ownsRow w.heap.size 3 1 (.slice A1 (k + 1) c1) (k + 1) (clsN ((l.take (k + 1)).map Prod.fst))) := ho1
      rw [← HLL.out]
      clear ho1 hg1 hown hb h1 h2
      go_wp2
      go_roundw
      case rel => exact ⟨k + 1, A1, c1, by go_num, by omega, rfl, H2, hb1⟩
      case measure => simp [intOf]; omega
    · go_wp2
      go_ret
      have hkl : k = l.length := by omega
      have ho := hown.out
      rw [hkl, List.take_of_length_le (Nat.le_refl _)] at ho
      exact ⟨A', c', by rw [hkl, List.length_map]; rfl, by rw [List.length_map]; exact ho, hb⟩

set_option maxHeartbeats 1000000 in
set_option maxRecDepth 100000 in
theorem sameInts_eq (w : World) (A1 A2 : Option Addr) (n1 n2 c1 c2 : Nat) (l : List Int) (hl1 : n1 = l.length) (hl2 : n2 = l.length) (hr1 : Rd w A1 (clsN l)) (hr2 : Rd w A2 (clsN l)) (hn : l.length ≤ 26388279066624) :
    Calls Try.prog 25 #[.slice A1 n1 c1, .slice A2 n2 c2] w (Gives w (.bool true)) := by
  subst hl1
  subst hl2
  go_enter Try.func25, Try.ntmps25
  go_wp2
  go_loopw [13] (fun s13 wr => ∃ (k q : Nat), s13 = .int .i64 (k : Int) ∧ k ≤ l.length ∧ wr = w.drewN q) (fun s13 _ => l.length - (intOf s13).toNat)
  case atStart => exact ⟨0, 0, rfl, by omega, rfl⟩
  case round =>
    obtain ⟨k, q, rfl, hk, rfl⟩ := hrel
    by_cases hlt : k < l.length
    · obtain ⟨b, o, rfl, hbb, h1⟩ := hr1.atN k hlt
      obtain ⟨b', o', rfl, hbb', h1'⟩ := hr2.atN k hlt
      obtain ⟨y1, hy⟩ : ∃ y, g l k = y := ⟨_, rfl⟩
      rw [hy] at h1 h1'
      clear hy hr1 hr2
      go_wp2_with fail
      go_quiet (fail)
      go_wp2
      go_roundw
      case rel => exact ⟨k + 1, q + nq, by go_num, by omega, rfl⟩
      case measure => simp [intOf]; omega
    · go_wp2
      go_ret
      exact ⟨rfl, below_drewN (Below.refl _ _) _⟩

theorem run_append_its (w : World) (B : Nat) (u : Value) (l Z : List It) (A : Option Addr) (c : Nat) (hown : w.ownsRow B 34 2 u l.length (cls l)) (hr : Rd w A (cls Z)) (hn : (l.length + Z.length) * 16 ≤ 211106232598528) (hB : B ≤ w.heap.size) (ty : TypeId) :
    ∃ A' c' w', (Builtin.append_ #[24, 24] ty #[u, .slice A Z.length c]).run Try.prog w = .ok (.slice A' (l.length + Z.length) c') w' ∧
      w'.ownsRow B 34 2 (.slice A' (l.length + Z.length) c') (l.length + Z.length) (cls (l ++ Z)) ∧ w.grownBy w' u.ownBlock := by
  obtain ⟨i0, hi, hz0, hz1, hz2⟩ := info_parts info_item
  by_cases h0 : Z = []
  · subst h0
    obtain ⟨A1, c1, rfl⟩ := own_slice hown
    have hlc : l.length ≤ c1 := by
      rcases hown.2 with ⟨_, e⟩ | ⟨gb, cap, cur, hv, _, _, hc, _⟩
      · omega
      · injection hv with _ _ hv3; omega
    refine ⟨A1, c1, w, ?_, by simpa using hown, World.grownBy.refl _ _⟩
    cases A with
    | none =>
      cases A1 with
      | none => simp [Builtin.append_, run_underlying Try.underlying24, sizeOf, typeInfo, hi, Builtin.lenOf, Builtin.firstCells, hlc]
      | some a1 => simp [Builtin.append_, run_underlying Try.underlying24, sizeOf, typeInfo, hi, Builtin.lenOf, Builtin.firstCells, hlc, storeCells]
    | some ad =>
      cases A1 with
      | none => simp [Builtin.append_, run_underlying Try.underlying24, sizeOf, typeInfo, hi, Builtin.lenOf, Builtin.firstCells, loadCells, loadCellsFrom, hlc]
      | some a1 => simp [Builtin.append_, run_underlying Try.underlying24, sizeOf, typeInfo, hi, Builtin.lenOf, Builtin.firstCells, loadCells, loadCellsFrom, hlc, storeCells]
  · rcases hr with h | ⟨b, o, rfl, hb, hc⟩
    · have := length_cls Z
      rw [h] at this
      exact absurd (List.eq_nil_of_length_eq_zero (by simp at this; omega)) h0
    · obtain ⟨v', w', hr, h2, h3, _⟩ := run_append_own_wide (P := Try.prog) w B 24 ty 34 i0 _ 2 16 Try.underlying24 hi hz0 hz1 hz2 rfl (by decide) u l.length (cls l) hown
        ⟨b, o, none⟩ Z.length c (cls Z) (length_cls Z) (fun j u hu => by rw [add_lit]; exact hc j u hu) (cls_oneCell Z) (by simp only [maxLen]; omega) (wide_fits16 hn) hB
      obtain ⟨A', c', rfl⟩ := own_slice h2
      exact ⟨A', c', w', hr, by rw [cls_append]; exact h2, h3⟩

end Go.Proofs.Ytpjdpcpcfcohiaa
