import Derived.Test.Qxb6605551aEnv
import Derived.Deep.LoopGhost
import Derived.Deep.DeepCutAuto
namespace Go.Proofs.Qxb6605551a
open Go.RowKit

/-- Is there a pass more? -/
def goOn (s : Nat) (h : Int) : Bool := decide (s < 64) && decide (h / 2 ^ s ≠ 0)
/-- What packOrder hands back. -/
def OrderIs (w : World) (n : Nat) (Z : Nat → Int) (e : Ending) (w' : World) : Prop :=
  ∃ a' c' L, e = .returned (.slice a' n c') ∧ Ints .u32 w' a' n (fun i => ((List.getD L i 0 : Nat) : Int)) ∧ L.Perm (List.range n) ∧ L.Pairwise (fun r q => Z r < Z q ∨ (Z r = Z q ∧ r < q)) ∧ Below w.heap.size w w'

theorem order_done {Z : Nat → Int} {n s : Nat} {L : List Nat} {h : Int} (hz : ∀ i, 0 ≤ Z i ∧ Z i ≤ 9223372036854775807) (hh : ∀ i, i < n → Z i ≤ h) (hp : L.Perm (List.range n)) (hs : L.Pairwise (lt Z s)) (hg : goOn s h = false) : L.Pairwise (fun r q => Z r < Z q ∨ (Z r = Z q ∧ r < q)) := by
  have hpow : (0 : Int) < 2 ^ s := Int.pow_pos (by decide)
  have key : ∀ r, r ∈ L → Z r % 2 ^ s = Z r := by
    intro r hr
    have hrn : r < n := by simpa using hp.mem_iff.1 hr
    have h1 := hz r
    have h2 := hh r hrn
    apply Int.emod_eq_of_lt h1.1
    simp only [goOn, Bool.and_eq_false_iff, decide_eq_false_iff_not, Decidable.not_not] at hg
    rcases hg with hg | hg
    · have h3 := Nat.pow_le_pow_right (n := 2) (by decide) (show 64 ≤ s by omega)
      have h4 : (2 : Nat) ^ 64 = 18446744073709551616 := by decide
      have h5 : ((2 ^ s : Nat) : Int) = (2 : Int) ^ s := by rw [Int.natCast_pow]; rfl
      omega
    · have h5 : h < 2 ^ s := by
        have h6 := Int.mul_ediv_add_emod h (2 ^ s)
        rw [hg, Int.mul_zero, Int.zero_add] at h6
        rw [← h6]
        exact Int.emod_lt_of_pos _ hpow
      omega
  refine List.Pairwise.imp_of_mem ?_ hs
  intro r q hr hq hl
  unfold lt at hl
  rwa [key r hr, key q hq] at hl

theorem cntD_le (Z : Nat → Int) (s : Nat) (L : List Nat) (k d : Nat) : cntD Z s L k d ≤ k := by
  unfold cntD bucket
  refine Nat.le_trans (List.length_filter_le _ _) ?_
  rw [List.length_take]; omega

set_option maxHeartbeats 4000000 in
set_option maxRecDepth 100000 in
theorem order_any (xb : Nat) (a : Option Addr) (n c : Nat) (Z : Nat → Int) (w : World) (hx : w.cell? ⟨xb, 3, none⟩ = some (.slice a n c)) (hS : Ints .i64 w a n Z) (hn : n ≤ 65536) (hz : ∀ i, 0 ≤ Z i ∧ Z i ≤ 9223372036854775807) :
    Calls Try.prog 20 #[.pointer (some ⟨xb, 0, none⟩)] w (OrderIs w n Z) := by
  have HZ : Hid (∀ i, 0 ≤ Z i ∧ Z i ≤ 9223372036854775807) := hz
  clear hz
  have hxb : xb < w.heap.size := World.block_lt_of_cell? _ _ hx
  have hmk := run_make_row' (P := Try.prog) 25 29 (.int .u32 0) 4 Try.underlying25 Try.info29 rfl .i64 .i64 n (by omega) (by omega)
  go_enter Try.func20, Try.ntmps20
  go_wp2_with fail
  refine (len_any xb a n c w hx).mono ?_
  rintro e w' ⟨rfl, hw'⟩
  subst w'
  go_wp2
  go_loopw [25] (fun i wr => ∃ k : Nat, k ≤ n ∧ i = .int .i64 k ∧ Below w.heap.size w wr ∧ wr.heap.size = w.heap.size + 1 ∧ wr.rowIs w.heap.size 29 n (fun j => .int .u32 (if j < k then (j : Int) else 0))) (fun i _ => n - (intOf i).toNat)
  case atStart => exact ⟨0, Nat.zero_le _, rfl, (Below.refl _ _).alloc (Nat.le_refl _) _, by simp, (World.rowIs_made w _ n 29).congr (fun j _ => by simp)⟩
  case round =>
    obtain ⟨k, hk, rfl, hb, hsz, hr⟩ := hrel
    by_cases hlt : k < n
    · have st := hr.cell hlt
      have sf := hr.frozen k
      go_wp2
      go_roundw
      case rel =>
        refine ⟨k + 1, by omega, by go_num, hb.setCell (Nat.le_refl _) _, by simp [World.setCell, hsz], (hr.set k _).congr (fun j _ => ?_)⟩
        by_cases e : j = k
        · subst e; simp
        · have : (j < k + 1) = (j < k) := by simp; omega
          simp [e, this]
      case measure => simp [intOf]; omega
    · obtain rfl : k = n := by omega
      have hx' : wr.cell? ⟨xb, 3, none⟩ = some (.slice a k c) := by rw [← hx]; exact hb.cell hxb
      go_wp2
      -- the highest offset
      go_loop [5, 39] (fun v5 v39 => ∃ (t : Nat) (h : Int), t ≤ k ∧ v5 = .int .i64 h ∧ v39 = .int .i64 t ∧ 0 ≤ h ∧ h ≤ 9223372036854775807 ∧ ∀ i, i < t → Z i ≤ h) (fun _ v39 => k - (intOf v39).toNat)
      case atStart => exact ⟨0, 0, Nat.zero_le _, rfl, rfl, by omega, by omega, fun i hi => by omega⟩
      case round =>
        obtain ⟨t, h, ht, rfl, rfl, h0, h1, hh⟩ := hrel
        have HH : Hid (∀ i, i < t → Z i ≤ h) := hh
        clear hh
        by_cases htk : t < k
        · obtain ⟨b, off, rfl, hc⟩ := hS (by omega)
          have g : wr.cell? ⟨b, off + t, none⟩ = some (.int .i64 (Z t)) := by rw [← hc t htk]; exact hb.cell (World.block_lt_of_cell? _ _ (hc t htk))
          have zt := HZ.out t
          clear hc
          have htz : (t : Int) < (k : Int) := by omega
          go_wp2
          go_round
          case rel =>
            refine ⟨t + 1, _, by omega, rfl, by go_num, by split <;> omega, by split <;> omega, fun i hi => ?_⟩
            rcases Nat.lt_or_ge i t with g1 | g1
            · have := HH.out i g1; split <;> omega
            · obtain rfl : i = t := by omega
              split <;> omega
          case measure => simp [intOf]; omega
        · obtain rfl : t = k := by omega
          have hzv := zero58
          have HE : Hid (Env w t (List.range t) w.heap.size (w.heap.size + 1) (w.heap.size + 3) (11 * 0) (fun _ => 0) (fun _ => 0)
              (((wr.alloc (Obj.cells (madeCells #[Value.int IntKind.u32 0] t) 29)).alloc (Obj.cells zeros 58)).alloc (Obj.cells #[Value.int IntKind.i64 0] 3))) := by
            have r1 := World.rowIs_made wr (.int .u32 0) t 29
            have r2 := zeros_row (wr.alloc (Obj.cells (madeCells #[Value.int IntKind.u32 0] t) 29))
            rw [hsz] at r1
            rw [Deep.nblk_alloc, hsz] at r2
            refine ⟨.inl ⟨rfl, rfl⟩, by omega, ?_, ((r1.alloc _).alloc _).congr (fun _ _ => rfl), (r2.alloc _).congr (fun _ _ => rfl), ?_, ?_, ((hb.alloc (by omega) _).alloc (by simp; omega) _).alloc (by simp; omega) _⟩
            · refine (((hr.alloc _).alloc _).alloc _).congr (fun i hi => ?_)
              rw [if_pos hi, List.getD_eq_getElem?_getD, List.getElem?_range hi]; rfl
            · have e : w.heap.size + 3 = ((wr.alloc (Obj.cells (madeCells #[Value.int IntKind.u32 0] t) 29)).alloc (Obj.cells zeros 58)).heap.size := by simp [hsz]
              rw [e]; simp [go_sem]
            · have e : w.heap.size + 3 = ((wr.alloc (Obj.cells (madeCells #[Value.int IntKind.u32 0] t) 29)).alloc (Obj.cells zeros 58)).heap.size := by simp [hsz]
              rw [e]; simp [go_sem]
          go_wp2
          clear hzv hmk
          go_loopg [3, 8, 10] 7 (fun g v3 v8 v10 wr => ∃ (j : Nat) (L : List Nat) (ra nb pb : Nat) (N St : Nat → Nat), j ≤ 6 ∧ g = 7 - j ∧ v3 = .slice (some ⟨ra, 0, none⟩) t t ∧ v8 = .slice (some ⟨nb, 0, none⟩) t t ∧ v10 = .pointer (some ⟨pb, 0, none⟩) ∧ L.Perm (List.range t) ∧ L.Pairwise (lt Z (11 * j)) ∧ Env w t L ra nb pb (11 * j) N St wr)
          case atStart => exact ⟨0, List.range t, _, _, _, _, _, by omega, rfl, rfl, rfl, rfl, List.Perm.refl _, range_sorted Z t, HE.out⟩
          case round =>
            obtain ⟨j, L, ra, nb, pb, N, St, hj, rfl, rfl, rfl, rfl, hperm, hsort, hE⟩ := hrel
            clear HE hr hb hsz hx'
            have HPM : Hid (L.Perm (List.range t)) := hperm
            have HST : Hid (L.Pairwise (lt Z (11 * j))) := hsort
            clear hperm hsort
            have csh := hE.sh
            go_upto_region 16 with fail
            go_cut [57] (fun v wc => v = .bool (goOn (11 * j) h) ∧ wc = wr)
            case first =>
              by_cases j0 : j = 0
              · subst j0
                have csh' : wr.cell? ⟨pb, 0, none⟩ = some (.int .i64 0) := csh
                by_cases hq : h = 0
                · have hq' : (h != 0) = false := by rw [hq]; rfl
                  have HG : Hid (goOn (11 * 0) h = false) := (by simp [goOn, hq] : goOn (11 * 0) h = false)
                  clear hq csh
                  go_wp2
                  go_meet
                  case rel => exact ⟨by rw [HG.out], rfl⟩
                · have hq' : (h != 0) = true := by rw [bne_iff_ne]; exact hq
                  have HG : Hid (goOn (11 * 0) h = true) := (by simp [goOn, hq] : goOn (11 * 0) h = true)
                  clear hq csh
                  go_wp2
                  go_meet
                  case rel => exact ⟨by rw [HG.out], rfl⟩
              by_cases j1 : j = 1
              · subst j1
                have csh' : wr.cell? ⟨pb, 0, none⟩ = some (.int .i64 11) := csh
                by_cases hq : h / 2048 = 0
                · have hq' : (h / 2048 != 0) = false := by rw [hq]; rfl
                  have HG : Hid (goOn (11 * 1) h = false) := (by simp [goOn, hq] : goOn (11 * 1) h = false)
                  clear hq csh
                  go_wp2
                  go_meet
                  case rel => exact ⟨by rw [HG.out], rfl⟩
                · have hq' : (h / 2048 != 0) = true := by rw [bne_iff_ne]; exact hq
                  have HG : Hid (goOn (11 * 1) h = true) := (by simp [goOn, hq] : goOn (11 * 1) h = true)
                  clear hq csh
                  go_wp2
                  go_meet
                  case rel => exact ⟨by rw [HG.out], rfl⟩
              by_cases j2 : j = 2
              · subst j2
                have csh' : wr.cell? ⟨pb, 0, none⟩ = some (.int .i64 22) := csh
                by_cases hq : h / 4194304 = 0
                · have hq' : (h / 4194304 != 0) = false := by rw [hq]; rfl
                  have HG : Hid (goOn (11 * 2) h = false) := (by simp [goOn, hq] : goOn (11 * 2) h = false)
                  clear hq csh
                  go_wp2
                  go_meet
                  case rel => exact ⟨by rw [HG.out], rfl⟩
                · have hq' : (h / 4194304 != 0) = true := by rw [bne_iff_ne]; exact hq
                  have HG : Hid (goOn (11 * 2) h = true) := (by simp [goOn, hq] : goOn (11 * 2) h = true)
                  clear hq csh
                  go_wp2
                  go_meet
                  case rel => exact ⟨by rw [HG.out], rfl⟩
              by_cases j3 : j = 3
              · subst j3
                have csh' : wr.cell? ⟨pb, 0, none⟩ = some (.int .i64 33) := csh
                by_cases hq : h / 8589934592 = 0
                · have hq' : (h / 8589934592 != 0) = false := by rw [hq]; rfl
                  have HG : Hid (goOn (11 * 3) h = false) := (by simp [goOn, hq] : goOn (11 * 3) h = false)
                  clear hq csh
                  go_wp2
                  go_meet
                  case rel => exact ⟨by rw [HG.out], rfl⟩
                · have hq' : (h / 8589934592 != 0) = true := by rw [bne_iff_ne]; exact hq
                  have HG : Hid (goOn (11 * 3) h = true) := (by simp [goOn, hq] : goOn (11 * 3) h = true)
                  clear hq csh
                  go_wp2
                  go_meet
                  case rel => exact ⟨by rw [HG.out], rfl⟩
              by_cases j4 : j = 4
              · subst j4
                have csh' : wr.cell? ⟨pb, 0, none⟩ = some (.int .i64 44) := csh
                by_cases hq : h / 17592186044416 = 0
                · have hq' : (h / 17592186044416 != 0) = false := by rw [hq]; rfl
                  have HG : Hid (goOn (11 * 4) h = false) := (by simp [goOn, hq] : goOn (11 * 4) h = false)
                  clear hq csh
                  go_wp2
                  go_meet
                  case rel => exact ⟨by rw [HG.out], rfl⟩
                · have hq' : (h / 17592186044416 != 0) = true := by rw [bne_iff_ne]; exact hq
                  have HG : Hid (goOn (11 * 4) h = true) := (by simp [goOn, hq] : goOn (11 * 4) h = true)
                  clear hq csh
                  go_wp2
                  go_meet
                  case rel => exact ⟨by rw [HG.out], rfl⟩
              by_cases j5 : j = 5
              · subst j5
                have csh' : wr.cell? ⟨pb, 0, none⟩ = some (.int .i64 55) := csh
                by_cases hq : h / 36028797018963968 = 0
                · have hq' : (h / 36028797018963968 != 0) = false := by rw [hq]; rfl
                  have HG : Hid (goOn (11 * 5) h = false) := (by simp [goOn, hq] : goOn (11 * 5) h = false)
                  clear hq csh
                  go_wp2
                  go_meet
                  case rel => exact ⟨by rw [HG.out], rfl⟩
                · have hq' : (h / 36028797018963968 != 0) = true := by rw [bne_iff_ne]; exact hq
                  have HG : Hid (goOn (11 * 5) h = true) := (by simp [goOn, hq] : goOn (11 * 5) h = true)
                  clear hq csh
                  go_wp2
                  go_meet
                  case rel => exact ⟨by rw [HG.out], rfl⟩
              obtain rfl : j = 6 := by omega
              have csh' : wr.cell? ⟨pb, 0, none⟩ = some (.int .i64 66) := csh
              clear csh
              go_wp2
              go_meet
              case rel => exact ⟨rfl, rfl⟩
            case rest =>
              obtain ⟨hv57, hwc⟩ := hcut
              subst hv57
              subst hwc
              cases hgo : goOn (11 * j) h
              · have HD : Hid (L.Pairwise (fun r q => Z r < Z q ∨ (Z r = Z q ∧ r < q))) := order_done HZ.out HH.out HPM.out HST.out hgo
                go_wp2
                go_ret
                exact ⟨_, _, L, rfl, fun _ => ⟨ra, 0, rfl, fun i hi => by rw [Nat.zero_add]; exact hE.rowA.cell hi⟩, HPM.out, HD.out, hE.bel⟩
              · have hs64 : 11 * j = 0 ∨ 11 * j = 11 ∨ 11 * j = 22 ∨ 11 * j = 33 ∨ 11 * j = 44 ∨ 11 * j = 55 := by
                  simp only [goOn, Bool.and_eq_true, decide_eq_true_eq] at hgo
                  omega
                have hj5 : j ≤ 5 := by omega
                obtain ⟨s, hs⟩ : ∃ s, s = 11 * j := ⟨_, rfl⟩
                rw [← hs] at hE hs64 csh
                have HS : Hid (s = 11 * j) := hs
                have HS6 : Hid (s = 0 ∨ s = 11 ∨ s = 22 ∨ s = 33 ∨ s = 44 ∨ s = 55) := hs64
                clear hs hs64
                have hsb := run_slice_all58 (w.heap.size + 2)
                obtain ⟨w2, hclr, hr2, hg2, hz2⟩ := run_clear58 hE.rowS 0
                have hE2 := hE.clear hg2 hr2
                have hx2 : w2.cell? ⟨xb, 3, none⟩ = some (.slice a t c) := by rw [← hx]; exact hE2.bel.cell hxb
                have hG : w.heap.size + 1 + 1 = w.heap.size + 2 := rfl
                go_wp2
                clear hsb hclr hr2 hg2 hz2 csh
                have HE2 : Hid (Env w t L ra nb pb s N (fun _ => 0) w2) := hE2
                clear hE hE2 hx2
                -- the digits are counted
                go_loopw [67] (fun v wr => ∃ (q : Nat) (St : Nat → Nat), q ≤ t ∧ v = .int .i64 q ∧ Env w t L ra nb pb s N St wr ∧ ∀ d, St d = cntD Z s (List.range t) q d) (fun v _ => t - (intOf v).toNat)
                case atStart => exact ⟨0, _, Nat.zero_le _, rfl, HE2.out, fun d => by simp [cntD, bucket]⟩
                case round =>
                  obtain ⟨q, St2, hq, rfl, hE, hst⟩ := hrel
                  have HSTT : Hid (∀ d, St2 d = cntD Z s (List.range t) q d) := hst
                  clear hst
                  by_cases hqt : q < t
                  · obtain ⟨b, off, rfl, hc⟩ := hS (by omega)
                    have g : wr.cell? ⟨b, off + q, none⟩ = some (.int .i64 (Z q)) := by rw [← hc q hqt]; exact hE.bel.cell (World.block_lt_of_cell? _ _ (hc q hqt))
                    clear hc
                    have hqz : (q : Int) < (t : Int) := by omega
                    obtain ⟨d, hd⟩ : ∃ d, d = dig Z s q := ⟨_, rfl⟩
                    have hd2 : d < 2048 := by rw [hd]; exact dig_lt Z s q
                    have hd2z : (d : Int) < 2048 := by omega
                    have HDC : Hid (∀ w', w'.cell? ⟨pb, 0, none⟩ = some (.int .i64 (s : Int)) → Calls Try.prog 24 #[.int .i64 (Z q), .pointer (some ⟨pb, 0, none⟩)] w' fun e w'' => e = .returned (.int .i64 (d : Int)) ∧ w'' = w') := fun w' hw => by rw [hd]; exact digit_at Z s q pb w' HS6.out hw
                    have HDD : Hid (d = dig Z s q) := hd
                    clear hd
                    have cst := hE.rowS.cell hd2
                    have fst := hE.rowS.frozen d
                    have hstb : St2 d ≤ q := by rw [HSTT.out d]; exact cntD_le _ _ _ _ _
                    have csh := hE.sh
                    go_wp2_with (go_at_call 24; refine (HDC.out _ csh).mono ?_; rintro e w' ⟨rfl, rfl⟩)
                    go_roundw
                    case rel =>
                      refine ⟨q + 1, fun x => if x = d then St2 d + 1 else St2 x, by omega, by go_num, by have := hE.setS d (St2 d + 1); rwa [Int.natCast_add] at this, fun x => ?_⟩
                      have hlen : q < (List.range t).length := by simpa using hqt
                      have hget : (List.range t)[q] = q := by simp
                      by_cases ex : x = d
                      · subst ex
                        have h1 := cnt_hit (Z := Z) (s := s) hlen
                        rw [hget, ← HDD.out] at h1
                        show (if _ then _ else _) = _
                        rw [if_pos rfl, h1, HSTT.out]
                      · have h1 := cnt_miss (Z := Z) (s := s) (d := x) hlen (by rw [hget, ← HDD.out]; exact fun e => ex e.symm)
                        show (if _ then _ else _) = _
                        rw [if_neg ex, h1, HSTT.out]
                    case measure => simp [intOf]; omega
                  · obtain rfl : q = t := by omega
                    have hcnt : Hid (∀ d, St2 d = (bucket Z s (List.range q) d).length) := fun d => by rw [HSTT.out d, cntD, List.take_of_length_le (by simp)]
                    obtain ⟨cs, hheap, hcsz, hcs⟩ := hE.rowS
                    have hi58 : (Try.prog.info? 58).map (·.size) = some cs.size := by rw [hcsz]; exact info58
                    have HCS : Hid (∀ i, i < 2048 → cs[i]? = some (.int .i64 ((St2 i : Nat) : Int))) := hcs
                    clear hcs HSTT HE2
                    go_wp2_with (refine wpList_load_row rfl 58 _ rfl (w.heap.size + 2) rfl 58 cs (0, 0) _ hheap und58 rfl hi58 ?_)
                    clear hheap hi58
                    have HE3 : Hid (Env w q L ra nb pb s N St2 wr) := hE
                    clear hE
                    -- where each digit's rows begin
                    go_loopw [14, 80] (fun v14 v80 wr => ∃ (d : Nat) (St : Nat → Nat), d ≤ 2048 ∧ v14 = .int .i64 (start Z s (List.range q) d) ∧ v80 = .int .i64 d ∧ Env w q L ra nb pb s N St wr ∧ ∀ x, St x = if x < d then start Z s (List.range q) x else St2 x) (fun _ v80 _ => 2048 - (intOf v80).toNat)
                    case atStart => exact ⟨0, St2, by omega, rfl, rfl, HE3.out, fun x => by rw [if_neg (by omega)]⟩
                    case round =>
                      obtain ⟨d, St3, hd, rfl, rfl, hE, hst⟩ := hrel
                      have HST3 : Hid (∀ x, St3 x = if x < d then start Z s (List.range q) x else St2 x) := hst
                      clear hst HE3
                      have hsb : start Z s (List.range q) d ≤ q := by
                        have h1 := start_mono Z s (List.range q) (show d ≤ 2048 from hd)
                        rw [start_end, List.length_range] at h1; exact h1
                      by_cases hd2 : d < 2048
                      · have hd2z : (d : Int) < 2048 := by omega
                        have hix := run_index58 hd2 (HCS.out d hd2)
                        have cst := hE.rowS.cell hd2
                        have fst := hE.rowS.frozen d
                        have hs1 := start_succ Z s (List.range q) d
                        have HS1 : Hid (start Z s (List.range q) (d + 1) = start Z s (List.range q) d + St2 d) := (by rw [hs1, hcnt.out d] : start Z s (List.range q) (d + 1) = start Z s (List.range q) d + St2 d)
                        have hb2 : St2 d ≤ q := by
                          rw [hcnt.out d]
                          exact Nat.le_trans (List.length_filter_le _ _) (by simp)
                        clear hs1
                        obtain ⟨S0, hS0⟩ : ∃ S0, S0 = start Z s (List.range q) d := ⟨_, rfl⟩
                        rw [← hS0] at hsb ⊢
                        have HS0 : Hid (S0 = start Z s (List.range q) d) := hS0
                        clear hS0
                        go_wp2
                        go_roundw
                        case rel =>
                          refine ⟨d + 1, _, by omega, by rw [HS1.out, ← HS0.out]; go_num, by go_num, hE.setS d S0, fun x => ?_⟩
                          show (if _ then _ else _) = _
                          by_cases ex : x = d
                          · subst ex; rw [if_pos rfl, if_pos (by omega), HS0.out]
                          · rw [if_neg ex, HST3.out x]
                            by_cases g1 : x < d
                            · rw [if_pos g1, if_pos (by omega)]
                            · rw [if_neg g1, if_neg (by omega)]
                        case measure => simp [intOf]; omega
                      · obtain rfl : d = 2048 := by omega
                        rw [show ((2048 : Nat) : Int) = 2048 from rfl]
                        have hlen : L.length = q := by rw [HPM.out.length_eq, List.length_range]
                        have HPL : Hid (∀ x, x < 2048 → St3 x = place Z s L 0 x) := fun x hx0 => by
                          rw [HST3.out x, if_pos hx0, place, start_of_perm HPM.out x]
                          simp [cntD, bucket]
                        have HE4 : Hid (Env w q L ra nb pb s N St3 wr) := hE
                        have HLEN : Hid (L.length = q) := hlen
                        clear hE HST3 hcnt HCS hsb hlen
                        go_wp2
                        -- the rows are laid
                        go_loopw [93] (fun v wr => ∃ (k : Nat) (N4 St4 : Nat → Nat), k ≤ q ∧ v = .int .i64 k ∧ Env w q L ra nb pb s N4 St4 wr ∧ Fill Z s L k N4 ∧ ∀ x, x < 2048 → St4 x = place Z s L k x) (fun v _ => q - (intOf v).toNat)
                        case atStart => exact ⟨0, N, St3, Nat.zero_le _, rfl, HE4.out, fill_start _ _ _ _, HPL.out⟩
                        case round =>
                          obtain ⟨k, N4, St4, hk4, rfl, hE, hfill, hpl⟩ := hrel
                          clear HE4 HPL
                          have HFL : Hid (Fill Z s L k N4) := hfill
                          have HPL4 : Hid (∀ x, x < 2048 → St4 x = place Z s L k x) := hpl
                          clear hfill hpl
                          by_cases hkq : k < q
                          · have hkl : k < L.length := by rw [HLEN.out]; exact hkq
                            obtain ⟨r, hr⟩ : ∃ r, r = L.getD k 0 := ⟨_, rfl⟩
                            have hrk : r = L[k] := by rw [hr, List.getD_eq_getElem?_getD, List.getElem?_eq_getElem hkl]; rfl
                            have hrq : r < q := by
                              have : r ∈ List.range q := HPM.out.mem_iff.1 (by rw [hrk]; exact List.getElem_mem hkl)
                              simpa using this
                            obtain ⟨b, off, rfl, hc⟩ := hS (by omega)
                            have g : wr.cell? ⟨b, off + r, none⟩ = some (.int .i64 (Z r)) := by rw [← hc r hrq]; exact hE.bel.cell (World.block_lt_of_cell? _ _ (hc r hrq))
                            have ga : wr.cell? ⟨ra, k, none⟩ = some (.int .u32 (r : Int)) := by rw [hr]; exact hE.rowA.cell hkq
                            have hx4 : wr.cell? ⟨xb, 3, none⟩ = some (.slice (some ⟨b, off, none⟩) q c) := by rw [← hx]; exact hE.bel.cell hxb
                            clear hc
                            have hkz : (k : Int) < (q : Int) := by omega
                            have hrz : (r : Int) < (q : Int) := by omega
                            obtain ⟨d, hd⟩ : ∃ d, d = dig Z s r := ⟨_, rfl⟩
                            have hd2 : d < 2048 := by rw [hd]; exact dig_lt Z s r
                            have hd2z : (d : Int) < 2048 := by omega
                            have HDC : Hid (∀ w', w'.cell? ⟨pb, 0, none⟩ = some (.int .i64 (s : Int)) → Calls Try.prog 24 #[.int .i64 (Z r), .pointer (some ⟨pb, 0, none⟩)] w' fun e w'' => e = .returned (.int .i64 (d : Int)) ∧ w'' = w') := fun w' hw => by rw [hd]; exact digit_at Z s r pb w' HS6.out hw
                            have hdk : d = dig Z s L[k] := by rw [hd, hrk]
                            obtain ⟨p, hp⟩ : ∃ p, p = St4 d := ⟨_, rfl⟩
                            have hpp : p = place Z s L k (dig Z s L[k]) := by rw [hp, HPL4.out d hd2, hdk]
                            have hpq : p < q := by rw [hpp, ← HLEN.out]; exact place_lt hkl
                            have hpz : (p : Int) < (q : Int) := by omega
                            have csh := hE.sh
                            have cst : wr.cell? ⟨w.heap.size + 2, d, none⟩ = some (.int .i64 (p : Int)) := by rw [hp]; exact hE.rowS.cell hd2
                            have cb := hE.rowB.cell hpq
                            have fb := hE.rowB.frozen p
                            have hEB := hE.setB p r
                            have cst2 : (wr.setCell ⟨nb, p, none⟩ (.int .u32 (r : Int))).cell? ⟨w.heap.size + 2, d, none⟩ = some (.int .i64 (p : Int)) := by have := hEB.rowS.cell hd2; rwa [← hp] at this
                            have fst2 : (wr.setCell ⟨nb, p, none⟩ (.int .u32 (r : Int))).frozen? ⟨w.heap.size + 2, d, none⟩ = false := hEB.rowS.frozen d
                            have hEN := hEB.setS d (p + 1)
                            have HF2 : Hid (Fill Z s L (k + 1) (fun x => if x = p then r else N4 x)) := (by
                              have := HFL.out.step hkl
                              rw [← hpp, ← hrk] at this
                              exact this : Fill Z s L (k + 1) (fun x => if x = p then r else N4 x))
                            have HP2 : Hid (∀ x, x < 2048 → (if x = d then p + 1 else St4 x) = place Z s L (k + 1) x) := fun x hx0 => by
                              by_cases ex : x = d
                              · subst ex
                                rw [if_pos rfl, hpp, place, place, hdk, cnt_hit hkl]; omega
                              · rw [if_neg ex, HPL4.out x hx0, place, place, cnt_miss hkl (by rw [← hdk]; exact fun e => ex e.symm)]
                            clear hr hrk hd hdk hp hpp hE hEB HFL HPL4 hkl
                            go_wp2_with (go_at_call 24; refine (HDC.out _ csh).mono ?_; rintro e w' ⟨rfl, rfl⟩)
                            go_roundw
                            case rel => exact ⟨k + 1, _, _, by omega, by go_num, by rwa [Int.natCast_add] at hEN, HF2.out, HP2.out⟩
                            case measure => simp [intOf]; omega
                          · obtain rfl : k = q := by omega
                            have hfill : Fill Z s L L.length N4 := by rw [HLEN.out]; exact HFL.out
                            have hE5 := (hE.swap (L' := pass Z s L) (N' := fun i => L.getD i 0) (fun i hi => fill_pass hfill i (by rw [HLEN.out]; exact hi)) (fun i _ => rfl)).next (s + 11)
                            have HE5 : Hid (Env w k (pass Z s L) nb ra wr.heap.size (s + 11) (fun i => L.getD i 0) St4 (wr.alloc (.cells #[.int .i64 ((s + 11 : Nat) : Int)] 3))) := hE5
                            have csh := hE.sh
                            have hs60 : s ≤ 55 := by have := HS6.out; omega
                            clear hE hE5 hfill HFL HPL4
                            go_wp2
                            go_roundg (7 - (j + 1))
                            case measure => omega
                            case rel =>
                              have e : s + 11 = 11 * (j + 1) := by have := HS.out; omega
                              refine ⟨j + 1, pass Z s L, nb, ra, wr.heap.size, (fun i => L.getD i 0), St4, by omega, rfl, rfl, rfl, rfl, (pass_perm Z s L).trans HPM.out, ?_, ?_⟩
                              · rw [← e]
                                exact pass_sorted (fun r => (HZ.out r).1) (by rw [HS.out]; exact HST.out)
                              · rw [← e]
                                have h5 := HE5.out
                                rw [Int.natCast_add] at h5
                                exact h5
end Go.Proofs.Qxb6605551a
