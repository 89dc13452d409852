/-
  Lists of numbers; the helper functions keysOf and sameInts of the laws: what they return. Condition: memory holds the lists that they are handed, within the reach of a slice.
-/
import Derived.Test.YtadacjndepkfeaaWith
namespace Go.Proofs.Ytadacjndepkfeaa
open Go.RowKit Go.Shelf
open Hp (g swp Ev)

def clsN (l : List Int) : List Value := l.map (.int .i64 ·)
theorem length_clsN (l : List Int) : (clsN l).length = l.length := by simp [clsN]
theorem clsN_append (l r : List Int) : clsN (l ++ r) = clsN l ++ clsN r := by simp [clsN]
theorem clsN_at (l : List Int) (i : Nat) (h : i < l.length) : (clsN l)[i]? = some (.int .i64 (g l i)) := by
  simp [clsN, Hp.g_lt h]
theorem clsN_oneCell (l : List Int) : ∀ u ∈ clsN l, u.oneCell' = true := by
  intro u hu
  simp only [clsN, List.mem_map] at hu
  obtain ⟨x, _, rfl⟩ := hu
  rfl
theorem Rd.atN {w : World} {A : Option Addr} {l : List Int} (h : Rd w A (clsN l)) (k : Nat) (hk : k < l.length) :
    ∃ b o : Nat, A = some ⟨b, o, none⟩ ∧ b < w.heap.size ∧ w.cell? ⟨b, o + k, none⟩ = some (.int .i64 (g l k)) := by
  rcases h with h | ⟨b, o, h1, h2, h3⟩
  · have := length_clsN l
    rw [h] at this
    simp at this
    omega
  · exact ⟨b, o, h1, h2, h3 _ _ (clsN_at l k hk)⟩

/-- What a function that makes a new list of numbers leaves. -/
def NewInts (w : World) (l : List Int) (e : Ending) (w' : World) : Prop :=
  ∃ A c, e = .returned (.slice A l.length c) ∧ w'.ownsRow w.heap.size 3 1 (.slice A l.length c) l.length (clsN l) ∧ Below w.heap.size w w'

theorem info_int : (Try.prog.info? 3).map (fun i => (i.zero, i.size, i.bytes)) = some (some (.int .i64 0), 1, 8) := by kernel_rfl
theorem wide_fits8 {n : Nat} (h : n ≤ 26388279066624) : (n + n / 4 + 192) * 8 ≤ 281474976710656 := by omega

/-- append of one number onto an own slice. -/
theorem wpList_append_int {w : World} {ops : Array Oper} {rest : List Oper} {o : Oper} {a : Act} {Q : Exit → Act → World → Prop} (hgd : o.guard = none) (s x : Operand)
    (ho : o.op = .call { callee := .builtin .append, args := #[s, x], argTypes := #[47, 47] }) (u : Value) (B : Nat) (l : List Int) (y : Int) (gs : Nat) (hs : a.eval s = u) (hx : a.eval x = .slice (some ⟨gs, 0, none⟩) 1 1)
    (hown : w.ownsRow B 3 1 u l.length (clsN l)) (hg : w.heap[gs]? = some (.cells #[.int .i64 y] 3 (0, 0)))
    (hn : l.length + 1 ≤ 26388279066624) (hB : B ≤ w.heap.size)
    (h : ∀ A' c' w', w'.ownsRow B 3 1 (.slice A' (l.length + 1) c') (l.length + 1) (clsN (l ++ [y])) → w.grownBy w' u.ownBlock → wpList Try.prog ops Q rest (a.put o.dst (.slice A' (l.length + 1) c')) w') : wpList Try.prog ops Q (o :: rest) a w := by
  obtain ⟨i0, hi, hz0, hz1, hz2⟩ := info_parts info_int
  obtain ⟨v', w', hr, h2, h3, _⟩ := run_append_own_wide (P := Try.prog) w B 47 o.type 3 i0 _ 1 8 Try.underlying47 hi hz0 hz1 hz2 rfl (by decide) u l.length (clsN l) hown
    ⟨gs, 0, none⟩ 1 1 [.int .i64 y] rfl (World.news_of_block (cs := #[.int .i64 y]) (t := 3) (fr := (0, 0)) hg) (by simp [Value.oneCell']) (by simp only [maxLen]; omega) (wide_fits8 hn) hB
  obtain ⟨A', c', rfl⟩ := own_slice h2
  exact wpList_append_run hgd s x _ ho _ _ _ _ hs hx hr (h A' c' w' (by rw [clsN_append]; exact h2) h3)

set_option maxHeartbeats 1000000 in
set_option maxRecDepth 100000 in
theorem keysOf_any (w : World) (A : Option Addr) (n c : Nat) (l : List It) (hl : n = l.length) (hr : Rd w A (cls l)) (hn : l.length ≤ 26388279066624) :
    Calls Try.prog 29 #[.slice A n c] w (NewInts w (l.map Prod.fst)) := by
  subst hl
  go_enter Try.func29, Try.ntmps29
  go_wp2
  go_loopw [3, 8] (fun s3 s8 wr => ∃ (k : Nat) (A' : Option Addr) (c' : Nat), s8 = .int .i64 (k : Int) ∧ k ≤ l.length ∧ s3 = .slice A' k c' ∧ Aside (wr.ownsRow w.heap.size 3 1 (.slice A' k c') k (clsN ((l.take k).map Prod.fst))) ∧ Below w.heap.size w wr)
    (fun _ s8 _ => l.length - (intOf s8).toNat)
  case atStart => exact ⟨0, none, 0, rfl, by omega, rfl, World.ownsRow_nil _ _ _ _, Below.refl _ _⟩
  case round =>
    obtain ⟨k, A', c', rfl, hk, rfl, hown, hb⟩ := hrel
    have hsz := hb.size
    by_cases hlt : k < l.length
    · obtain ⟨b, o, rfl, hbb, h1, h2⟩ := (hr.below hb (Nat.le_refl _)).at_ k hlt
      clear hr
      have htk := take_succ_g l k hlt
      obtain ⟨⟨x, y⟩, hx⟩ : ∃ x, g l k = x := ⟨_, rfl⟩
      rw [hx] at h1 h2 htk
      have HTK := Lib.hid htk
      obtain ⟨L, hL⟩ : ∃ L, L = (l.take k).map Prod.fst := ⟨_, rfl⟩
      have hLl : k = L.length := by rw [hL]; simp; omega
      have hE : L ++ [x] = (l.take (k + 1)).map Prod.fst := by rw [HTK.out, hL]; simp
      have how := (hown.out.alloc (.cells #[.int .i64 x, .int .i64 y] 36)).alloc (.cells #[.int .i64 x] 3)
      rw [← hL, hLl] at how
      have HOW := Lib.hid how
      have HLL := Lib.hid hLl
      have HE := Lib.hid hE
      have hzz := heap_alloc_new (wr.alloc (.cells #[.int .i64 x, .int .i64 y] 36)) (.cells #[.int .i64 x] 3)
      rw [heap_size_alloc] at hzz
      have HZZ := Lib.hid hzz
      have HLE := Lib.hid (show L.length + 1 ≤ 26388279066624 by rw [← hLl]; omega)
      have HLB := Lib.hid (show w.heap.size ≤ ((wr.alloc (.cells #[.int .i64 x, .int .i64 y] 36)).alloc (.cells #[.int .i64 x] 3)).heap.size by simp; omega)
      clear hx htk hL hLl hE how hzz
      go_wp2_with (at_builtin; refine wpList_append_int rfl _ _ rfl _ w.heap.size L x (wr.heap.size + 1) (by rw [← HLL.out]; rfl) rfl HOW.out HZZ.out HLE.out HLB.out ?_)
      intro A1 c1 w1 ho1 hg1
      have hb1 : Below w.heap.size w w1 := ((hb.alloc hsz _).alloc (by simp; omega) _).grown hg1 (by simp; omega) (fun kk hkk => (hown.out.lt kk (by rw [HLL.out]; exact hkk)).1)
      rw [HE.out, ← HLL.out] at ho1
      have H2 : Aside (w1.ownsRow w.heap.size 3 1 (.slice A1 (k + 1) c1) (k + 1) (clsN ((l.take (k + 1)).map Prod.fst))) := ho1
      rw [← HLL.out]
      clear ho1 hg1 hown hb h1 h2
      go_wp2
      go_roundw
      case rel => exact ⟨k + 1, A1, c1, by go_num, by omega, rfl, H2, hb1⟩
      case measure => simp [intOf]; omega
    · go_wp2
      go_ret
      have hkl : k = l.length := by omega
      have ho := hown.out
      rw [hkl, List.take_of_length_le (Nat.le_refl _)] at ho
      exact ⟨A', c', by rw [hkl, List.length_map]; rfl, by rw [List.length_map]; exact ho, hb⟩

set_option maxHeartbeats 1000000 in
set_option maxRecDepth 100000 in
theorem sameInts_eq (w : World) (A1 A2 : Option Addr) (n1 n2 c1 c2 : Nat) (l : List Int) (hl1 : n1 = l.length) (hl2 : n2 = l.length) (hr1 : Rd w A1 (clsN l)) (hr2 : Rd w A2 (clsN l)) (hn : l.length ≤ 26388279066624) :
    Calls Try.prog 34 #[.slice A1 n1 c1, .slice A2 n2 c2] w (Gives w (.bool true)) := by
  subst hl1
  subst hl2
  go_enter Try.func34, Try.ntmps34
  go_wp2
  go_loopw [13] (fun s13 wr => ∃ (k q : Nat), s13 = .int .i64 (k : Int) ∧ k ≤ l.length ∧ wr = w.drewN q) (fun s13 _ => l.length - (intOf s13).toNat)
  case atStart => exact ⟨0, 0, rfl, by omega, rfl⟩
  case round =>
    obtain ⟨k, q, rfl, hk, rfl⟩ := hrel
    by_cases hlt : k < l.length
    · obtain ⟨b, o, rfl, hbb, h1⟩ := hr1.atN k hlt
      obtain ⟨b', o', rfl, hbb', h1'⟩ := hr2.atN k hlt
      obtain ⟨y1, hy⟩ : ∃ y, g l k = y := ⟨_, rfl⟩
      rw [hy] at h1 h1'
      clear hy hr1 hr2
      go_wp2_with fail
      go_quiet (fail)
      go_wp2
      go_roundw
      case rel => exact ⟨k + 1, q + nq, by go_num, by omega, rfl⟩
      case measure => simp [intOf]; omega
    · go_wp2
      go_ret
      exact ⟨rfl, below_drewN (Below.refl _ _) _⟩
end Go.Proofs.Ytadacjndepkfeaa
