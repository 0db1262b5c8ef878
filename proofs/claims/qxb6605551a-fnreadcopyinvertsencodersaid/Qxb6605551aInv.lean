import Derived.Test.Qxb6605551aCopy
import Derived.Test.Qxb6605551aEnc
namespace Go.Proofs.Qxb6605551a
open Go.RowKit Go.Lib

/-- The seven bytes of the offset x and the size y, the size left out where it is said short. -/
def encB (x y : Int) (skip : Bool) : Nat → Int
  | 0 => x % 256
  | 1 => x / 256 % 256
  | 2 => x / 65536 % 256
  | 3 => x / 16777216 % 256
  | 4 => if skip then 0 else y % 256
  | 5 => if skip then 0 else y / 256 % 256
  | _ => if skip then 0 else y / 65536 % 256
theorem encB_bd (x y : Int) (skip : Bool) (j : Nat) : 0 ≤ encB x y skip j ∧ encB x y skip j ≤ 255 := by
  unfold encB
  split <;> first | omega | (split <;> omega)
theorem ls_bd {B : Nat → Int} (hB : ∀ j, 0 ≤ B j ∧ B j ≤ 255) : ∀ i, ∀ v ∈ ls B i, 0 ≤ v ∧ v ≤ 255
  | 0, v, hv => by simp [ls] at hv; subst hv; omega
  | i + 1, v, hv => by
    by_cases h : B i = 0
    · rw [ls_clear h] at hv; exact ls_bd hB i v hv
    · rw [ls_set h, List.mem_append, List.mem_singleton] at hv
      rcases hv with hv | rfl
      · exact ls_bd hB i v hv
      · exact hB i
theorem enc_bd {B : Nat → Int} {tl : List Int} (hB : ∀ j, 0 ≤ B j ∧ B j ≤ 255) (ht : ∀ v ∈ tl, 0 ≤ v ∧ v ≤ 255) (i : Nat) : 0 ≤ (enc B tl).getD i 0 ∧ (enc B tl).getD i 0 ≤ 255 := by
  have hall : ∀ v ∈ enc B tl, 0 ≤ v ∧ v ≤ 255 := by
    intro v hv
    rw [enc, List.mem_append] at hv
    rcases hv with hv | hv
    · rcases List.mem_or_eq_of_mem_set hv with hv | rfl
      · exact ls_bd hB 7 v hv
      · have := fl_bd B 7 (Nat.le_refl _)
        have e : (2 : Int) ^ 7 = 128 := rfl
        rw [e] at this
        omega
    · exact ht v hv
  rw [List.getD_eq_getElem?_getD]
  cases hg : (enc B tl)[i]? with
  | none => exact ⟨Int.le_refl _, by decide⟩
  | some v => exact hall v (List.mem_of_getElem? hg)

/-- The first t bytes of the tail. -/
def tl (T : Nat → Int) (t : Nat) : List Int := (List.range t).map T
theorem tl_succ (T : Nat → Int) (t : Nat) : tl T (t + 1) = tl T t ++ [T t] := by simp [tl, List.range_succ]
theorem tl_len (T : Nat → Int) (t : Nat) : (tl T t).length = t := by simp [tl]
theorem tl_bd {T : Nat → Int} (h : ∀ i, 0 ≤ T i ∧ T i ≤ 255) (t : Nat) : ∀ v ∈ tl T t, 0 ≤ v ∧ v ≤ 255 := by
  intro v hv
  simp only [tl, List.mem_map] at hv
  obtain ⟨i, _, rfl⟩ := hv
  exact h i

theorem Try.info5' : (Try.prog.info? 5).map (fun i => (i.zero, i.size, i.bytes)) = some (some (.int .u8 0), 1, 1) := by kernel_rfl
theorem run_make_op (n : Nat) (hn : n ≤ 1048576) (w : World) :
    (Instr.makeSlice 30 (.int .i64 1) (.int .i64 (8 + (n : Int)))).run Try.prog w = .ok (.slice (some ⟨w.heap.size, 0, none⟩) 1 (8 + n)) (w.alloc (.cells (madeCells #[.int .u8 0] (8 + n)) 5)) := by
  obtain ⟨i, hi, hzz⟩ := Option.map_eq_some_iff.1 Try.info5'
  simp only [Prod.mk.injEq] at hzz
  obtain ⟨hz, hs, hb⟩ := hzz
  have hr := run_make (P := Try.prog) w 30 5 i _ Try.underlying30 hi hz .i64 .i64 1 (8 + (n : Int)) (by omega) (by omega) (by rw [hb]; omega) (by omega)
  rw [show (8 + (n : Int)).toNat = 8 + n from by omega, hs, Nat.mul_one] at hr
  exact hr
theorem own_made (w : World) (n : Nat) (hn : n ≤ 1048576) : (w.alloc (.cells (madeCells #[.int .u8 0] (8 + n)) 5)).ownsRow w.heap.size 5 1 (.slice (some ⟨w.heap.size, 0, none⟩) 1 (8 + n)) 1 ([(0 : Int)].map (Value.int .u8)) := by
  refine ⟨rfl, .inr ⟨w.heap.size, 8 + n, _, rfl, Nat.le_refl _, Deep.blk_alloc_new _ _, by omega, by unfold maxLen; omega, by rw [size_madeCells]; omega, ?_⟩⟩
  rw [toList_madeCells_one]
  show List.take (1 * 1) (List.replicate (8 + n) (Value.int .u8 0)) = [Value.int .u8 0]
  rw [show 8 + n = (7 + n) + 1 from by omega, List.replicate_succ]
  rfl

/-- What the encoder's loops keep: op lies at block g and holds L. -/
def Op (w1 : World) (g cap : Nat) (L : List Int) (wr : World) : Prop :=
  wr.ownsRow g 5 1 (.slice (some ⟨g, 0, none⟩) L.length cap) L.length (L.map (Value.int .u8)) ∧ Below w1.heap.size w1 wr ∧ w1.heap.size = g

theorem own_ints {wr : World} {g cap k : Nat} {L : List Int} (h : wr.ownsRow g 5 1 (.slice (some ⟨g, 0, none⟩) k cap) k (L.map (Value.int .u8))) (hk : L.length = k) : Ints .u8 wr (some ⟨g, 0, none⟩) k (fun i => L.getD i 0) := fun _ => ⟨g, 0, rfl, fun i hi' => by
  have hi2 : i < L.length := by omega
  have h1 := h.cellAt i (by omega)
  rw [List.getElem?_map, List.getElem?_eq_getElem hi2] at h1
  simp only [List.getD_eq_getElem?_getD, List.getElem?_eq_getElem hi2, Nat.zero_add]
  exact h1⟩

set_option maxHeartbeats 4000000 in
set_option maxRecDepth 100000 in
theorem inverts_any (x y : Int) (s : Bool) (a : Option Addr) (n c : Nat) (T : Nat → Int) (w : World) (hx0 : 0 ≤ x) (hx1 : x ≤ 4294967295) (hy0 : 0 ≤ y) (hy1 : y ≤ 4294967295) (hS : Ints .u8 w a n T) (ha : a = none → n = 0) (hz : ∀ i, 0 ≤ T i ∧ T i ≤ 255) (hm : n ≤ maxLen) :
    Calls Try.prog 5 #[.int .u32 x, .int .u32 y, .bool s, .slice a n c] w fun e w' => e = .returned (.bool true) ∧ Below w.heap.size w w' := by
  have HT : Hid (∀ i, 0 ≤ T i ∧ T i ≤ 255) := hz
  clear hz
  go_enter Try.func5, Try.ntmps5
  go_wp2_with fail
  refine (bytes13 x y s a n c w hm).mono ?_
  rintro e w' ⟨r, rfl, hw', hr⟩
  subst w'
  cases r with
  | false =>
    go_wp2
    go_ret
    exact ⟨rfl, Below.refl _ _⟩
  | true =>
  have hm' := hr rfl
  clear hr hm
  by_cases h1 : (65536 : Int) < n
  · go_wp2
    go_ret
    exact ⟨rfl, Below.refl _ _⟩
  by_cases h2 : y = 0
  · subst h2
    go_wp2
    go_ret
    exact ⟨rfl, Below.refl _ _⟩
  have h2' : (y == 0) = false := beq_eq_false_iff_ne.2 h2
  by_cases h3 : 16777216 ≤ y
  · go_wp2
    go_ret
    exact ⟨rfl, Below.refl _ _⟩
  go_wp2_with fail
  refine (clone_bytes a n c T w hS ha (by omega)).mono ?_
  rintro e w1 ⟨a1, c1, rfl, s1, _, hc1, b1⟩
  have hmk := run_make_op n (by omega)
  obtain ⟨i0, hi, hz0, hz1, hz2⟩ := info_parts Try.info5'
  obtain ⟨B, hBd⟩ : ∃ B, B = encB x y (s && decide (y = 65536)) := ⟨_, rfl⟩
  have HBB : Hid (∀ j, 0 ≤ B j ∧ B j ≤ 255) := (by rw [hBd]; exact encB_bd _ _ _ : ∀ j, 0 ≤ B j ∧ B j ≤ 255)
  have e0 : Hid (x % 256 = B 0) := (by rw [hBd]; rfl : x % 256 = B 0)
  have e1 : Hid (x / 256 % 256 = B 1) := (by rw [hBd]; rfl : x / 256 % 256 = B 1)
  have e2 : Hid (x / 65536 % 256 = B 2) := (by rw [hBd]; rfl : x / 65536 % 256 = B 2)
  have e3 : Hid (x / 16777216 % 256 = B 3) := (by rw [hBd]; rfl : x / 16777216 % 256 = B 3)
  have HBD : Hid (B = encB x y (s && decide (y = 65536))) := hBd
  clear hBd
  have HO : Hid (Op w1 w1.heap.size (8 + n) (ls B 0) (w1.alloc (.cells (madeCells #[.int .u8 0] (8 + n)) 5))) := ⟨own_made w1 n (by omega), (Below.refl _ _).alloc (Nat.le_refl _) _, rfl⟩
  go_wp2
  clear hmk
  go_loopw [9, 10, 11] (fun v9 v10 v11 wr => ∃ i : Nat, i ≤ 4 ∧ v9 = .slice (some ⟨w1.heap.size, 0, none⟩) (ls B i).length (8 + n) ∧ v10 = .int .u8 (fl B i) ∧ v11 = .int .i64 i ∧ Op w1 w1.heap.size (8 + n) (ls B i) wr) (fun _ _ v11 _ => 4 - (intOf v11).toNat)
  case atStart => exact ⟨0, by omega, rfl, rfl, rfl, HO.out⟩
  case round =>
    obtain ⟨i, hi4, rfl, rfl, rfl, hown, hbel, _⟩ := hrel
    clear HO
    have ll := ls_len B i
    by_cases h10 : i = 0
    · subst h10
      rw [show ((0 : Nat) : Int) = 0 from rfl]
      have hb := HBB.out 0
      have eB := e0.out
      have hfl : bits BinOp.or .u8 (fl B 0) 1 = fl B 0 + 1 := by simpa using or_fl B 0 (by omega)
      obtain ⟨q, hq⟩ : ∃ q, q = B 0 := ⟨_, rfl⟩
      rw [← hq] at eB hb
      by_cases h0 : q = 0
      · have h0' : (q != 0) = false := by rw [h0]; rfl
        have E1 : Hid (ls B 1 = ls B 0) := ls_clear (hq.symm.trans h0)
        have E2 : Hid (fl B 1 = fl B 0) := fl_clear (hq.symm.trans h0)
        clear h0 hq
        go_wp2
        go_roundw
        case rel => exact ⟨1, by omega, by rw [E1.out], by rw [E2.out], by go_num, by rw [E1.out]; exact ⟨hown, hbel, rfl⟩⟩
        case measure => simp [intOf]
      · have h0' : (q != 0) = true := by rw [bne_iff_ne]; exact h0
        have E1 : Hid (ls B 1 = ls B 0 ++ [q]) := (by rw [hq] at h0 ⊢; exact ls_set h0 : ls B 1 = ls B 0 ++ [q])
        have E2 : Hid (fl B 1 = fl B 0 + 1) := (by rw [hq] at h0; simpa using fl_set (i := 0) h0 : fl B 1 = fl B 0 + 1)
        have hbs := hbel.size
        clear h0 hq
        go_wp2_with (at_builtin; refine wpList_append_fits _ rfl (.tmp 56) (.tmp 58) 30 rfl w1.heap.size 5 i0 1 Try.underlying30 hi hz1 w1.heap.size _ (8 + n) _ rfl (hown.alloc _) ⟨wr.heap.size, 0, none⟩ 1 1 [.int .u8 q] rfl rfl (cell_one_new _ _ _) (by intro u hu; simp at hu; subst hu; rfl) (by omega) ?_; intro w2 hown2 hg2)
        have hO : Op w1 w1.heap.size (8 + n) (ls B 0 ++ [q]) w2 := ⟨by simpa using hown2, (hbel.alloc hbs _).grown hg2 (by simp; omega) (fun k hk => by have := Option.some.inj hk; omega), rfl⟩
        clear hown2 hg2 hown hbel
        go_wp2
        go_roundw
        case rel => exact ⟨1, by omega, by rw [E1.out]; simp, by rw [E2.out], by go_num, by rw [E1.out]; exact hO⟩
        case measure => simp [intOf]
    by_cases h11 : i = 1
    · subst h11
      rw [show ((1 : Nat) : Int) = 1 from rfl]
      have hb := HBB.out 1
      have eB := e1.out
      have hfl : bits BinOp.or .u8 (fl B 1) 2 = fl B 1 + 2 := by simpa using or_fl B 1 (by omega)
      obtain ⟨q, hq⟩ : ∃ q, q = B 1 := ⟨_, rfl⟩
      rw [← hq] at eB hb
      by_cases h0 : q = 0
      · have h0' : (q != 0) = false := by rw [h0]; rfl
        have E1 : Hid (ls B 2 = ls B 1) := ls_clear (hq.symm.trans h0)
        have E2 : Hid (fl B 2 = fl B 1) := fl_clear (hq.symm.trans h0)
        clear h0 hq
        go_wp2
        go_roundw
        case rel => exact ⟨2, by omega, by rw [E1.out], by rw [E2.out], by go_num, by rw [E1.out]; exact ⟨hown, hbel, rfl⟩⟩
        case measure => simp [intOf]
      · have h0' : (q != 0) = true := by rw [bne_iff_ne]; exact h0
        have E1 : Hid (ls B 2 = ls B 1 ++ [q]) := (by rw [hq] at h0 ⊢; exact ls_set h0 : ls B 2 = ls B 1 ++ [q])
        have E2 : Hid (fl B 2 = fl B 1 + 2) := (by rw [hq] at h0; simpa using fl_set (i := 1) h0 : fl B 2 = fl B 1 + 2)
        have hbs := hbel.size
        clear h0 hq
        go_wp2_with (at_builtin; refine wpList_append_fits _ rfl (.tmp 56) (.tmp 58) 30 rfl w1.heap.size 5 i0 1 Try.underlying30 hi hz1 w1.heap.size _ (8 + n) _ rfl (hown.alloc _) ⟨wr.heap.size, 0, none⟩ 1 1 [.int .u8 q] rfl rfl (cell_one_new _ _ _) (by intro u hu; simp at hu; subst hu; rfl) (by omega) ?_; intro w2 hown2 hg2)
        have hO : Op w1 w1.heap.size (8 + n) (ls B 1 ++ [q]) w2 := ⟨by simpa using hown2, (hbel.alloc hbs _).grown hg2 (by simp; omega) (fun k hk => by have := Option.some.inj hk; omega), rfl⟩
        clear hown2 hg2 hown hbel
        go_wp2
        go_roundw
        case rel => exact ⟨2, by omega, by rw [E1.out]; simp, by rw [E2.out], by go_num, by rw [E1.out]; exact hO⟩
        case measure => simp [intOf]
    by_cases h12 : i = 2
    · subst h12
      rw [show ((2 : Nat) : Int) = 2 from rfl]
      have hb := HBB.out 2
      have eB := e2.out
      have hfl : bits BinOp.or .u8 (fl B 2) 4 = fl B 2 + 4 := by simpa using or_fl B 2 (by omega)
      obtain ⟨q, hq⟩ : ∃ q, q = B 2 := ⟨_, rfl⟩
      rw [← hq] at eB hb
      by_cases h0 : q = 0
      · have h0' : (q != 0) = false := by rw [h0]; rfl
        have E1 : Hid (ls B 3 = ls B 2) := ls_clear (hq.symm.trans h0)
        have E2 : Hid (fl B 3 = fl B 2) := fl_clear (hq.symm.trans h0)
        clear h0 hq
        go_wp2
        go_roundw
        case rel => exact ⟨3, by omega, by rw [E1.out], by rw [E2.out], by go_num, by rw [E1.out]; exact ⟨hown, hbel, rfl⟩⟩
        case measure => simp [intOf]
      · have h0' : (q != 0) = true := by rw [bne_iff_ne]; exact h0
        have E1 : Hid (ls B 3 = ls B 2 ++ [q]) := (by rw [hq] at h0 ⊢; exact ls_set h0 : ls B 3 = ls B 2 ++ [q])
        have E2 : Hid (fl B 3 = fl B 2 + 4) := (by rw [hq] at h0; simpa using fl_set (i := 2) h0 : fl B 3 = fl B 2 + 4)
        have hbs := hbel.size
        clear h0 hq
        go_wp2_with (at_builtin; refine wpList_append_fits _ rfl (.tmp 56) (.tmp 58) 30 rfl w1.heap.size 5 i0 1 Try.underlying30 hi hz1 w1.heap.size _ (8 + n) _ rfl (hown.alloc _) ⟨wr.heap.size, 0, none⟩ 1 1 [.int .u8 q] rfl rfl (cell_one_new _ _ _) (by intro u hu; simp at hu; subst hu; rfl) (by omega) ?_; intro w2 hown2 hg2)
        have hO : Op w1 w1.heap.size (8 + n) (ls B 2 ++ [q]) w2 := ⟨by simpa using hown2, (hbel.alloc hbs _).grown hg2 (by simp; omega) (fun k hk => by have := Option.some.inj hk; omega), rfl⟩
        clear hown2 hg2 hown hbel
        go_wp2
        go_roundw
        case rel => exact ⟨3, by omega, by rw [E1.out]; simp, by rw [E2.out], by go_num, by rw [E1.out]; exact hO⟩
        case measure => simp [intOf]
    by_cases h13 : i = 3
    · subst h13
      rw [show ((3 : Nat) : Int) = 3 from rfl]
      have hb := HBB.out 3
      have eB := e3.out
      have eB2 : x / 16777216 = B 3 := by omega
      have hfl : bits BinOp.or .u8 (fl B 3) 8 = fl B 3 + 8 := by simpa using or_fl B 3 (by omega)
      obtain ⟨q, hq⟩ : ∃ q, q = B 3 := ⟨_, rfl⟩
      rw [← hq] at eB hb eB2
      by_cases h0 : q = 0
      · have h0' : (q != 0) = false := by rw [h0]; rfl
        have E1 : Hid (ls B 4 = ls B 3) := ls_clear (hq.symm.trans h0)
        have E2 : Hid (fl B 4 = fl B 3) := fl_clear (hq.symm.trans h0)
        clear h0 hq
        go_wp2
        go_roundw
        case rel => exact ⟨4, by omega, by rw [E1.out], by rw [E2.out], by go_num, by rw [E1.out]; exact ⟨hown, hbel, rfl⟩⟩
        case measure => simp [intOf]
      · have h0' : (q != 0) = true := by rw [bne_iff_ne]; exact h0
        have E1 : Hid (ls B 4 = ls B 3 ++ [q]) := (by rw [hq] at h0 ⊢; exact ls_set h0 : ls B 4 = ls B 3 ++ [q])
        have E2 : Hid (fl B 4 = fl B 3 + 8) := (by rw [hq] at h0; simpa using fl_set (i := 3) h0 : fl B 4 = fl B 3 + 8)
        have hbs := hbel.size
        clear h0 hq
        go_wp2_with (at_builtin; refine wpList_append_fits _ rfl (.tmp 56) (.tmp 58) 30 rfl w1.heap.size 5 i0 1 Try.underlying30 hi hz1 w1.heap.size _ (8 + n) _ rfl (hown.alloc _) ⟨wr.heap.size, 0, none⟩ 1 1 [.int .u8 q] rfl rfl (cell_one_new _ _ _) (by intro u hu; simp at hu; subst hu; rfl) (by omega) ?_; intro w2 hown2 hg2)
        have hO : Op w1 w1.heap.size (8 + n) (ls B 3 ++ [q]) w2 := ⟨by simpa using hown2, (hbel.alloc hbs _).grown hg2 (by simp; omega) (fun k hk => by have := Option.some.inj hk; omega), rfl⟩
        clear hown2 hg2 hown hbel
        go_wp2
        go_roundw
        case rel => exact ⟨4, by omega, by rw [E1.out]; simp, by rw [E2.out], by go_num, by rw [E1.out]; exact hO⟩
        case measure => simp [intOf]
    obtain rfl : i = 4 := by omega
    rw [show ((4 : Nat) : Int) = 4 from rfl]
    by_cases hsk : s = true ∧ y = 65536
    · obtain ⟨rfl, rfl⟩ := hsk
      have z4 : B 4 = 0 := by rw [HBD.out]; rfl
      have z5 : B 5 = 0 := by rw [HBD.out]; rfl
      have z6 : B 6 = 0 := by rw [HBD.out]; rfl
      have EL : ls B 7 = ls B 4 := by rw [ls_clear z6, ls_clear z5, ls_clear z4]
      have EF : fl B 7 = fl B 4 := by rw [fl_clear z6, fl_clear z5, fl_clear z4]
      have HZ4 : Hid (B 4 = 0 ∧ B 5 = 0 ∧ B 6 = 0) := ⟨z4, z5, z6⟩
      rw [← EL] at hown ll ⊢
      rw [← EF]
      clear z4 z5 z6 EL EF
      have hcl := hown.cellAt 0 (by omega)
      have hc0 : wr.cell? ⟨w1.heap.size, 0, none⟩ = some (.int .u8 0) := by
        obtain ⟨r, hr⟩ := ls_head B 7
        rw [hcl, hr]; rfl
      have hf0 := hown.frozenAt 0
      have hO3 : Op w1 w1.heap.size (8 + n) (enc B (tl T 0)) (wr.setCell ⟨w1.heap.size, 0, none⟩ (.int .u8 (fl B 7))) := by
        have h := (hown.stored 0 (.int .u8 (fl B 7))).1
        refine ⟨?_, hbel.setCell (Nat.le_refl _) _, rfl⟩
        have e : enc B (tl T 0) = (ls B 7).set 0 (fl B 7) := by simp [enc, tl]
        rw [e, List.map_set, List.length_set]
        exact h
      have ll7 := ls_len B 7
      have hlz : (0 : Int) < ((ls B 7).length : Int) := by omega
      clear hown hbel hcl
      obtain ⟨m, hm0⟩ : ∃ m, m = (ls B 7).length := ⟨_, rfl⟩
      rw [← hm0] at ll7 hlz ⊢
      have HM0 : Hid (m = (ls B 7).length) := hm0
      clear hm0
      go_wp2
      go_loopw [9, 15] (fun v9 v15 wr => ∃ t : Nat, t ≤ n ∧ v9 = .slice (some ⟨w1.heap.size, 0, none⟩) (m + t) (8 + n) ∧ v15 = .int .i64 t ∧ Op w1 w1.heap.size (8 + n) (enc B (tl T t)) wr) (fun _ v15 _ => n - (intOf v15).toNat)
      case atStart => exact ⟨0, Nat.zero_le _, rfl, rfl, hO3⟩
      case round =>
        obtain ⟨t, ht, rfl, rfl, hown, hbel, _⟩ := hrel
        clear hO3 hc0 hf0
        have hel : (enc B (tl T t)).length = m + t := by rw [enc, List.length_append, List.length_set, tl_len, ← HM0.out]
        rw [hel] at hown
        have hbs := hbel.size
        by_cases htn : t < n
        · obtain ⟨bt, ot, rfl, hct⟩ := s1 (by omega)
          have gt : wr.cell? ⟨bt, ot + t, none⟩ = some (.int .u8 (T t)) := by rw [← hct t htn]; exact hbel.cell (World.block_lt_of_cell? _ _ (hct t htn))
          clear hct
          have htz : (t : Int) < (n : Int) := by omega
          clear hel
          go_wp2_with (at_builtin; refine wpList_append_fits _ rfl (.tmp 97) (.tmp 102) 30 rfl w1.heap.size 5 i0 1 Try.underlying30 hi hz1 w1.heap.size _ (8 + n) _ rfl (hown.alloc _) ⟨wr.heap.size, 0, none⟩ 1 1 [.int .u8 (T t)] rfl rfl (cell_one_new _ _ _) (by intro u hu; simp at hu; subst hu; rfl) (by omega) ?_; intro w2 hown2 hg2)
          have hO : Op w1 w1.heap.size (8 + n) (enc B (tl T (t + 1))) w2 := by
            have e : enc B (tl T (t + 1)) = enc B (tl T t) ++ [T t] := by rw [tl_succ]; simp [enc]
            have hel2 : (enc B (tl T t) ++ [T t]).length = m + t + 1 := by rw [List.length_append, enc, List.length_append, List.length_set, tl_len, ← HM0.out]; rfl
            refine ⟨?_, (hbel.alloc hbs _).grown hg2 (by simp; omega) (fun k hk => by have := Option.some.inj hk; omega), rfl⟩
            rw [e, hel2, List.map_append]
            exact hown2
          clear hown2 hg2 hown hbel
          go_wp2
          go_roundw
          case rel => exact ⟨t + 1, by omega, rfl, by go_num, hO⟩
          case measure => simp [intOf]; omega
        · obtain rfl : t = n := by omega
          have hI : Ints .u8 wr (some ⟨w1.heap.size, 0, none⟩) (m + t) (fun i => (enc B (tl T t)).getD i 0) := own_ints hown hel
          have hZ := enc_bd HBB.out (tl_bd HT.out t)
          have hL : 1 + cnt ((enc B (tl T t)).getD 0 0) 7 ≤ m + t := by rw [← hel]; exact enc_len B (tl T t)
          have HX : Hid (offTo (fun i => (enc B (tl T t)).getD i 0) 7 = x) := (by rw [enc_off]; have := e0.out; have := e1.out; have := e2.out; have := e3.out; omega : offTo (fun i => (enc B (tl T t)).getD i 0) 7 = x)
          have HY : Hid (sizeOr (sizeTo (fun i => (enc B (tl T t)).getD i 0) 7) = 65536) := (by rw [enc_size, HZ4.out.1, HZ4.out.2.1, HZ4.out.2.2]; rfl : sizeOr (sizeTo (fun i => (enc B (tl T t)).getD i 0) 7) = 65536)
          clear hel
          go_wp2_with fail
          refine (zzreadcopy_any _ (m + t) _ (fun i => (enc B (tl T t)).getD i 0) wr hI hZ hL (by omega)).mono ?_
          rintro e w3 ⟨rfl, k3, rfl⟩
          rw [HX.out, HY.out]
          go_wp2
          go_ret
          exact ⟨rfl, (b1.trans (hbel.mono b1.size)).trans (below_drewN _ _ _)⟩
    · have hskip : (s && decide (y = 65536)) = false := by
        cases s
        · rfl
        · simp; exact fun h => hsk ⟨rfl, h⟩
      have e4 : Hid (y % 256 = B 4) := (by rw [HBD.out, hskip]; rfl : y % 256 = B 4)
      have e5 : Hid (y / 256 % 256 = B 5) := (by rw [HBD.out, hskip]; rfl : y / 256 % 256 = B 5)
      have e6 : Hid (y / 65536 % 256 = B 6) := (by rw [HBD.out, hskip]; rfl : y / 65536 % 256 = B 6)
      have hO4 : Hid (Op w1 w1.heap.size (8 + n) (ls B 4) wr) := ⟨hown, hbel, rfl⟩
      have hys : s = true → (y == 65536) = false := fun h => beq_eq_false_iff_ne.2 (fun e => hsk ⟨h, e⟩)
      clear hskip hsk hown hbel
      cases s
      rotate_left
      have hys' := hys rfl
      all_goals
        clear hys
        go_wp2
        go_loopw [9, 10, 13] (fun v9 v10 v13 wr => ∃ i : Nat, i ≤ 3 ∧ v9 = .slice (some ⟨w1.heap.size, 0, none⟩) (ls B (4 + i)).length (8 + n) ∧ v10 = .int .u8 (fl B (4 + i)) ∧ v13 = .int .i64 i ∧ Op w1 w1.heap.size (8 + n) (ls B (4 + i)) wr) (fun _ _ v13 _ => 3 - (intOf v13).toNat)
        case atStart => exact ⟨0, by omega, rfl, rfl, rfl, hO4.out⟩
        case round =>
          obtain ⟨i, hi4, rfl, rfl, rfl, hown, hbel, _⟩ := hrel
          clear hO4
          have ll := ls_len B (4 + i)
          by_cases h20 : i = 0
          · subst h20
            rw [show ((0 : Nat) : Int) = 0 from rfl]
            have hb := HBB.out 4
            have eB := e4.out
            have hfl : bits BinOp.or .u8 (fl B 4) 16 = fl B 4 + 16 := by simpa using or_fl B 4 (by omega)
            obtain ⟨q, hq⟩ : ∃ q, q = B 4 := ⟨_, rfl⟩
            rw [← hq] at eB hb
            by_cases h0 : q = 0
            · have h0' : (q != 0) = false := by rw [h0]; rfl
              have E1 : Hid (ls B 5 = ls B 4) := ls_clear (hq.symm.trans h0)
              have E2 : Hid (fl B 5 = fl B 4) := fl_clear (hq.symm.trans h0)
              clear h0 hq
              go_wp2
              go_roundw
              case rel => exact ⟨1, by omega, by rw [E1.out], by rw [E2.out], by go_num, by rw [E1.out]; exact ⟨hown, hbel, rfl⟩⟩
              case measure => simp [intOf]
            · have h0' : (q != 0) = true := by rw [bne_iff_ne]; exact h0
              have E1 : Hid (ls B 5 = ls B 4 ++ [q]) := (by rw [hq] at h0 ⊢; exact ls_set h0 : ls B 5 = ls B 4 ++ [q])
              have E2 : Hid (fl B 5 = fl B 4 + 16) := (by rw [hq] at h0; simpa using fl_set (i := 4) h0 : fl B 5 = fl B 4 + 16)
              have hbs := hbel.size
              clear h0 hq
              go_wp2_with (at_builtin; refine wpList_append_fits _ rfl (.tmp 84) (.tmp 86) 30 rfl w1.heap.size 5 i0 1 Try.underlying30 hi hz1 w1.heap.size _ (8 + n) _ rfl (hown.alloc _) ⟨wr.heap.size, 0, none⟩ 1 1 [.int .u8 q] rfl rfl (cell_one_new _ _ _) (by intro u hu; simp at hu; subst hu; rfl) (by omega) ?_; intro w2 hown2 hg2)
              have hO : Op w1 w1.heap.size (8 + n) (ls B 4 ++ [q]) w2 := ⟨by simpa using hown2, (hbel.alloc hbs _).grown hg2 (by simp; omega) (fun k hk => by have := Option.some.inj hk; omega), rfl⟩
              clear hown2 hg2 hown hbel
              go_wp2
              go_roundw
              case rel => exact ⟨1, by omega, by rw [E1.out]; simp, by rw [E2.out], by go_num, by rw [E1.out]; exact hO⟩
              case measure => simp [intOf]
          by_cases h21 : i = 1
          · subst h21
            rw [show ((1 : Nat) : Int) = 1 from rfl]
            have hb := HBB.out 5
            have eB := e5.out
            have hfl : bits BinOp.or .u8 (fl B 5) 32 = fl B 5 + 32 := by simpa using or_fl B 5 (by omega)
            obtain ⟨q, hq⟩ : ∃ q, q = B 5 := ⟨_, rfl⟩
            rw [← hq] at eB hb
            by_cases h0 : q = 0
            · have h0' : (q != 0) = false := by rw [h0]; rfl
              have E1 : Hid (ls B 6 = ls B 5) := ls_clear (hq.symm.trans h0)
              have E2 : Hid (fl B 6 = fl B 5) := fl_clear (hq.symm.trans h0)
              clear h0 hq
              go_wp2
              go_roundw
              case rel => exact ⟨2, by omega, by rw [E1.out], by rw [E2.out], by go_num, by rw [E1.out]; exact ⟨hown, hbel, rfl⟩⟩
              case measure => simp [intOf]
            · have h0' : (q != 0) = true := by rw [bne_iff_ne]; exact h0
              have E1 : Hid (ls B 6 = ls B 5 ++ [q]) := (by rw [hq] at h0 ⊢; exact ls_set h0 : ls B 6 = ls B 5 ++ [q])
              have E2 : Hid (fl B 6 = fl B 5 + 32) := (by rw [hq] at h0; simpa using fl_set (i := 5) h0 : fl B 6 = fl B 5 + 32)
              have hbs := hbel.size
              clear h0 hq
              go_wp2_with (at_builtin; refine wpList_append_fits _ rfl (.tmp 84) (.tmp 86) 30 rfl w1.heap.size 5 i0 1 Try.underlying30 hi hz1 w1.heap.size _ (8 + n) _ rfl (hown.alloc _) ⟨wr.heap.size, 0, none⟩ 1 1 [.int .u8 q] rfl rfl (cell_one_new _ _ _) (by intro u hu; simp at hu; subst hu; rfl) (by omega) ?_; intro w2 hown2 hg2)
              have hO : Op w1 w1.heap.size (8 + n) (ls B 5 ++ [q]) w2 := ⟨by simpa using hown2, (hbel.alloc hbs _).grown hg2 (by simp; omega) (fun k hk => by have := Option.some.inj hk; omega), rfl⟩
              clear hown2 hg2 hown hbel
              go_wp2
              go_roundw
              case rel => exact ⟨2, by omega, by rw [E1.out]; simp, by rw [E2.out], by go_num, by rw [E1.out]; exact hO⟩
              case measure => simp [intOf]
          by_cases h22 : i = 2
          · subst h22
            rw [show ((2 : Nat) : Int) = 2 from rfl]
            have hb := HBB.out 6
            have eB := e6.out
            have eB2 : y / 65536 = B 6 := by omega
            have hfl : bits BinOp.or .u8 (fl B 6) 64 = fl B 6 + 64 := by simpa using or_fl B 6 (by omega)
            obtain ⟨q, hq⟩ : ∃ q, q = B 6 := ⟨_, rfl⟩
            rw [← hq] at eB hb eB2
            by_cases h0 : q = 0
            · have h0' : (q != 0) = false := by rw [h0]; rfl
              have E1 : Hid (ls B 7 = ls B 6) := ls_clear (hq.symm.trans h0)
              have E2 : Hid (fl B 7 = fl B 6) := fl_clear (hq.symm.trans h0)
              clear h0 hq
              go_wp2
              go_roundw
              case rel => exact ⟨3, by omega, by rw [E1.out], by rw [E2.out], by go_num, by rw [E1.out]; exact ⟨hown, hbel, rfl⟩⟩
              case measure => simp [intOf]
            · have h0' : (q != 0) = true := by rw [bne_iff_ne]; exact h0
              have E1 : Hid (ls B 7 = ls B 6 ++ [q]) := (by rw [hq] at h0 ⊢; exact ls_set h0 : ls B 7 = ls B 6 ++ [q])
              have E2 : Hid (fl B 7 = fl B 6 + 64) := (by rw [hq] at h0; simpa using fl_set (i := 6) h0 : fl B 7 = fl B 6 + 64)
              have hbs := hbel.size
              clear h0 hq
              go_wp2_with (at_builtin; refine wpList_append_fits _ rfl (.tmp 84) (.tmp 86) 30 rfl w1.heap.size 5 i0 1 Try.underlying30 hi hz1 w1.heap.size _ (8 + n) _ rfl (hown.alloc _) ⟨wr.heap.size, 0, none⟩ 1 1 [.int .u8 q] rfl rfl (cell_one_new _ _ _) (by intro u hu; simp at hu; subst hu; rfl) (by omega) ?_; intro w2 hown2 hg2)
              have hO : Op w1 w1.heap.size (8 + n) (ls B 6 ++ [q]) w2 := ⟨by simpa using hown2, (hbel.alloc hbs _).grown hg2 (by simp; omega) (fun k hk => by have := Option.some.inj hk; omega), rfl⟩
              clear hown2 hg2 hown hbel
              go_wp2
              go_roundw
              case rel => exact ⟨3, by omega, by rw [E1.out]; simp, by rw [E2.out], by go_num, by rw [E1.out]; exact hO⟩
              case measure => simp [intOf]
          obtain rfl : i = 3 := by omega
          rw [show ((3 : Nat) : Int) = 3 from rfl]
          rw [show 4 + 3 = 7 from rfl] at hown ll ⊢
          have hcl := hown.cellAt 0 (by omega)
          have hc0 : wr.cell? ⟨w1.heap.size, 0, none⟩ = some (.int .u8 0) := by
            obtain ⟨r, hr⟩ := ls_head B 7
            rw [hcl, hr]; rfl
          have hf0 := hown.frozenAt 0
          have hO3 : Op w1 w1.heap.size (8 + n) (enc B (tl T 0)) (wr.setCell ⟨w1.heap.size, 0, none⟩ (.int .u8 (fl B 7))) := by
            have h := (hown.stored 0 (.int .u8 (fl B 7))).1
            refine ⟨?_, hbel.setCell (Nat.le_refl _) _, rfl⟩
            have e : enc B (tl T 0) = (ls B 7).set 0 (fl B 7) := by simp [enc, tl]
            rw [e, List.map_set, List.length_set]
            exact h
          have ll7 := ls_len B 7
          have hlz : (0 : Int) < ((ls B 7).length : Int) := by omega
          clear hown hbel hcl
          obtain ⟨m, hm0⟩ : ∃ m, m = (ls B 7).length := ⟨_, rfl⟩
          rw [← hm0] at ll7 hlz ⊢
          have HM0 : Hid (m = (ls B 7).length) := hm0
          clear hm0
          go_wp2
          go_loopw [9, 15] (fun v9 v15 wr => ∃ t : Nat, t ≤ n ∧ v9 = .slice (some ⟨w1.heap.size, 0, none⟩) (m + t) (8 + n) ∧ v15 = .int .i64 t ∧ Op w1 w1.heap.size (8 + n) (enc B (tl T t)) wr) (fun _ v15 _ => n - (intOf v15).toNat)
          case atStart => exact ⟨0, Nat.zero_le _, rfl, rfl, hO3⟩
          case round =>
            obtain ⟨t, ht, rfl, rfl, hown, hbel, _⟩ := hrel
            clear hO3 hc0 hf0
            have hel : (enc B (tl T t)).length = m + t := by rw [enc, List.length_append, List.length_set, tl_len, ← HM0.out]
            rw [hel] at hown
            have hbs := hbel.size
            by_cases htn : t < n
            · obtain ⟨bt, ot, rfl, hct⟩ := s1 (by omega)
              have gt : wr.cell? ⟨bt, ot + t, none⟩ = some (.int .u8 (T t)) := by rw [← hct t htn]; exact hbel.cell (World.block_lt_of_cell? _ _ (hct t htn))
              clear hct
              have htz : (t : Int) < (n : Int) := by omega
              clear hel
              go_wp2_with (at_builtin; refine wpList_append_fits _ rfl (.tmp 97) (.tmp 102) 30 rfl w1.heap.size 5 i0 1 Try.underlying30 hi hz1 w1.heap.size _ (8 + n) _ rfl (hown.alloc _) ⟨wr.heap.size, 0, none⟩ 1 1 [.int .u8 (T t)] rfl rfl (cell_one_new _ _ _) (by intro u hu; simp at hu; subst hu; rfl) (by omega) ?_; intro w2 hown2 hg2)
              have hO : Op w1 w1.heap.size (8 + n) (enc B (tl T (t + 1))) w2 := by
                have e : enc B (tl T (t + 1)) = enc B (tl T t) ++ [T t] := by rw [tl_succ]; simp [enc]
                have hel2 : (enc B (tl T t) ++ [T t]).length = m + t + 1 := by rw [List.length_append, enc, List.length_append, List.length_set, tl_len, ← HM0.out]; rfl
                refine ⟨?_, (hbel.alloc hbs _).grown hg2 (by simp; omega) (fun k hk => by have := Option.some.inj hk; omega), rfl⟩
                rw [e, hel2, List.map_append]
                exact hown2
              clear hown2 hg2 hown hbel
              go_wp2
              go_roundw
              case rel => exact ⟨t + 1, by omega, rfl, by go_num, hO⟩
              case measure => simp [intOf]; omega
            · obtain rfl : t = n := by omega
              have hI : Ints .u8 wr (some ⟨w1.heap.size, 0, none⟩) (m + t) (fun i => (enc B (tl T t)).getD i 0) := own_ints hown hel
              have hZ := enc_bd HBB.out (tl_bd HT.out t)
              have hL : 1 + cnt ((enc B (tl T t)).getD 0 0) 7 ≤ m + t := by rw [← hel]; exact enc_len B (tl T t)
              have HX : Hid (offTo (fun i => (enc B (tl T t)).getD i 0) 7 = x) := (by rw [enc_off]; have := e0.out; have := e1.out; have := e2.out; have := e3.out; omega : offTo (fun i => (enc B (tl T t)).getD i 0) 7 = x)
              have HY : Hid (sizeOr (sizeTo (fun i => (enc B (tl T t)).getD i 0) 7) = y) := (by rw [enc_size]; have := e4.out; have := e5.out; have := e6.out; rw [show B 4 + B 5 * 256 + B 6 * 65536 = y from by omega, sizeOr, if_neg h2] : sizeOr (sizeTo (fun i => (enc B (tl T t)).getD i 0) 7) = y)
              clear hel
              go_wp2_with fail
              refine (zzreadcopy_any _ (m + t) _ (fun i => (enc B (tl T t)).getD i 0) wr hI hZ hL (by omega)).mono ?_
              rintro e w3 ⟨rfl, k3, rfl⟩
              rw [HX.out, HY.out]
              go_wp2
              go_ret
              exact ⟨rfl, (b1.trans (hbel.mono b1.size)).trans (below_drewN _ _ _)⟩
end Go.Proofs.Qxb6605551a
