import Derived.Test.Qxb6605503aSameA
namespace Go.Proofs.Qxb6605503a
open Go.RowKit


set_option maxRecDepth 100000 in
set_option maxHeartbeats 3000000 in
theorem same_gt (aa ab : Option Addr) (na nb ca cb : Nat) (A B : Nat → ByteArray) (CA CB : Nat → Int) (w : World) (hA : Ents w aa na A CA) (hB : Ents w ab nb B CB) (hna : na ≤ 1048576) (hnb : nb ≤ 1048576) (hcb : nb ≤ cb) (hmm : nb < na) :
    Calls Try.prog 27 #[.slice aa na ca, .slice ab nb cb] w (SameIs w (lcp nb A B)) := by
  go_enter Try.func27, Try.ntmps27
  go_wp2
  go_loopw [18] (fun i wr => ∃ k : Nat, k ≤ nb ∧ i = .int .i64 k ∧ (∀ j, j < k → A j = B j) ∧ ∃ q, wr = w.drewN q) (fun i _ => nb - (intOf i).toNat)
  case atStart => exact ⟨0, Nat.zero_le _, rfl, fun j hj => absurd hj (Nat.not_lt_zero _), 0, rfl⟩
  case round =>
    obtain ⟨k, hk, rfl, heq, q, rfl⟩ := hrel
    have HE : Hid (∀ j, j < k → A j = B j) := heq
    clear heq
    by_cases hlt : k < nb
    · obtain ⟨ba, oa, rfl, hca⟩ := hA (by omega)
      obtain ⟨bb, ob, rfl, hcb2⟩ := hB (by omega)
      have hx1 := (hca k (by omega)).1
      have hy1 := (hcb2 k (by omega)).1
      clear hca hcb2
      obtain ⟨x, hx⟩ : ∃ x, x = A k := ⟨_, rfl⟩
      obtain ⟨y, hy⟩ : ∃ y, y = B k := ⟨_, rfl⟩
      rw [← hx] at hx1
      rw [← hy] at hy1
      have HX : Hid (x = A k) := hx
      have HY : Hid (y = B k) := hy
      clear hx hy
      have hkz : (k : Int) < (na : Int) := by omega
      have hkz2 : (k : Int) < (nb : Int) := by omega
      by_cases hsz : x.size = y.size
      · have l1 : x.size ≤ y.size := by omega
        have l2 : y.size ≤ x.size := by omega
        have l3 : ((x.size : Int) != (y.size : Int)) = false := by rw [hsz]; exact bne_self_eq_false _
        have HZ : Hid (x.size = y.size) := hsz
        clear hsz
        by_cases c1 : 4 ≤ x.size ∧ x.size ≤ 8
        · obtain ⟨c1, c2⟩ := c1
          have d1 : (4 : Int) ≤ (x.size : Int) := by omega
          have d2 : (x.size : Int) ≤ 8 := by omega
          by_cases e1 : w32 x = w32 y
          · have e1' : (w32 x != w32 y) = false := by rw [e1]; exact bne_self_eq_false _
            by_cases e2 : w32 (x.extract (x.size - 4) x.size) = w32 (y.extract (x.size - 4) y.size)
            · have HXY : Hid (x = y) := eq_of_w32 HZ.out (by omega) c2 e1 (by rw [e2, HZ.out])
              have e2' : (w32 (x.extract (x.size - 4) x.size) != w32 (y.extract (x.size - 4) y.size)) = false := by rw [e2]; exact bne_self_eq_false _
              clear e1 e2
              go_wp2
              go_quiet (fail)
              go_wp2
              go_quiet ((go_at_call 32; refine quiet_at (word32_any _ ?_ _); first | omega | (rw [ByteArray.size_extract]; omega)))
              clear e1' e2'
              go_wp2
              go_roundw
              case rel =>
                refine ⟨k + 1, by omega, by go_num, fun j hj => ?_, _, rfl⟩
                rcases Nat.lt_or_ge j k with h | h
                · exact HE.out j h
                · obtain rfl : j = k := by omega
                  rw [← HX.out, ← HY.out]; exact HXY.out
              case measure => simp [intOf]; omega
            · have hne : x ≠ y := fun h => e2 (by rw [h])
              have e2' : (w32 (x.extract (x.size - 4) x.size) != w32 (y.extract (x.size - 4) y.size)) = true := by rw [bne_iff_ne]; exact e2
              clear e1 e2
              go_wp2
              go_quiet (fail)
              go_wp2
              go_quiet ((go_at_call 32; refine quiet_at (word32_any _ ?_ _); first | omega | (rw [ByteArray.size_extract]; omega)))
              go_wp2
              go_ret
              exact same_ret k (lcp_uniq (by omega) HE.out (fun _ e => hne (by rw [HX.out, HY.out, e]))) (by first | exact ⟨_, rfl⟩ | exact ⟨_, World.drewN_drewN _ _ _⟩)
          · have hne : x ≠ y := fun h => e1 (by rw [h])
            have e1' : (w32 x != w32 y) = true := by rw [bne_iff_ne]; exact e1
            clear e1
            go_wp2
            go_quiet (fail)
            go_wp2
            go_quiet ((go_at_call 32; refine quiet_at (word32_any _ ?_ _); first | omega | (rw [ByteArray.size_extract]; omega)))
            go_wp2
            go_ret
            exact same_ret k (lcp_uniq (by omega) HE.out (fun _ e => hne (by rw [HX.out, HY.out, e]))) (by first | exact ⟨_, rfl⟩ | exact ⟨_, World.drewN_drewN _ _ _⟩)
        by_cases c2 : 8 < x.size ∧ x.size ≤ 16
        · obtain ⟨c1, c2⟩ := c2
          have d1 : (8 : Int) < (x.size : Int) := by omega
          have d2 : (x.size : Int) ≤ 16 := by omega
          have d3 : decide ((x.size : Int) ≤ 8) = false := by simp; omega
          by_cases e1 : w64 x = w64 y
          · have e1' : (w64 x != w64 y) = false := by rw [e1]; exact bne_self_eq_false _
            by_cases e2 : w64 (x.extract (x.size - 8) x.size) = w64 (y.extract (x.size - 8) y.size)
            · have HXY : Hid (x = y) := eq_of_w64 HZ.out (by omega) c2 e1 (by rw [e2, HZ.out])
              have e2' : (w64 (x.extract (x.size - 8) x.size) != w64 (y.extract (x.size - 8) y.size)) = false := by rw [e2]; exact bne_self_eq_false _
              clear e1 e2
              go_wp2
              go_quiet (fail)
              go_wp2
              go_quiet ((go_at_call 33; refine quiet_at (word64_any _ ?_ _); first | omega | (rw [ByteArray.size_extract]; omega)))
              clear e1' e2'
              go_wp2
              go_roundw
              case rel =>
                refine ⟨k + 1, by omega, by go_num, fun j hj => ?_, _, rfl⟩
                rcases Nat.lt_or_ge j k with h | h
                · exact HE.out j h
                · obtain rfl : j = k := by omega
                  rw [← HX.out, ← HY.out]; exact HXY.out
              case measure => simp [intOf]; omega
            · have hne : x ≠ y := fun h => e2 (by rw [h])
              have e2' : (w64 (x.extract (x.size - 8) x.size) != w64 (y.extract (x.size - 8) y.size)) = true := by rw [bne_iff_ne]; exact e2
              clear e1 e2
              go_wp2
              go_quiet (fail)
              go_wp2
              go_quiet ((go_at_call 33; refine quiet_at (word64_any _ ?_ _); first | omega | (rw [ByteArray.size_extract]; omega)))
              go_wp2
              go_ret
              exact same_ret k (lcp_uniq (by omega) HE.out (fun _ e => hne (by rw [HX.out, HY.out, e]))) (by first | exact ⟨_, rfl⟩ | exact ⟨_, World.drewN_drewN _ _ _⟩)
          · have hne : x ≠ y := fun h => e1 (by rw [h])
            have e1' : (w64 x != w64 y) = true := by rw [bne_iff_ne]; exact e1
            clear e1
            go_wp2
            go_quiet (fail)
            go_wp2
            go_quiet ((go_at_call 33; refine quiet_at (word64_any _ ?_ _); first | omega | (rw [ByteArray.size_extract]; omega)))
            go_wp2
            go_ret
            exact same_ret k (lcp_uniq (by omega) HE.out (fun _ e => hne (by rw [HX.out, HY.out, e]))) (by first | exact ⟨_, rfl⟩ | exact ⟨_, World.drewN_drewN _ _ _⟩)
        by_cases c3 : x.size < 4
        · have d1 : decide ((4 : Int) ≤ (x.size : Int)) = false := by simp; omega
          have d3 : decide ((8 : Int) < (x.size : Int)) = false := by simp; omega
          by_cases hxy : x = y
          · have HXY : Hid (x = y) := hxy
            have e3 : (x.toList == y.toList) = true := by rw [hxy]; exact beq_self_eq_true _
            clear hxy
            go_wp2
            go_quiet (fail)
            go_wp2
            go_roundw
            case rel =>
              refine ⟨k + 1, by omega, by go_num, fun j hj => ?_, _, rfl⟩
              rcases Nat.lt_or_ge j k with h | h
              · exact HE.out j h
              · obtain rfl : j = k := by omega
                rw [← HX.out, ← HY.out]; exact HXY.out
            case measure => simp [intOf]; omega
          · have e3 : (x.toList == y.toList) = false := beq_eq_false_iff_ne.2 (fun h => hxy (toList_inj h))
            go_wp2
            go_quiet (fail)
            go_wp2
            go_ret
            exact same_ret k (lcp_uniq (by omega) HE.out (fun _ e => hxy (by rw [HX.out, HY.out, e]))) ⟨_, rfl⟩
        · have d1 : (4 : Int) ≤ (x.size : Int) := by omega
          have d2 : decide ((x.size : Int) ≤ 8) = false := by simp; omega
          have d3 : (8 : Int) < (x.size : Int) := by omega
          have d4 : decide ((x.size : Int) ≤ 16) = false := by simp; omega
          by_cases hxy : x = y
          · have HXY : Hid (x = y) := hxy
            have e3 : (x.toList == y.toList) = true := by rw [hxy]; exact beq_self_eq_true _
            clear hxy
            go_wp2
            go_quiet (fail)
            go_wp2
            go_roundw
            case rel =>
              refine ⟨k + 1, by omega, by go_num, fun j hj => ?_, _, rfl⟩
              rcases Nat.lt_or_ge j k with h | h
              · exact HE.out j h
              · obtain rfl : j = k := by omega
                rw [← HX.out, ← HY.out]; exact HXY.out
            case measure => simp [intOf]; omega
          · have e3 : (x.toList == y.toList) = false := beq_eq_false_iff_ne.2 (fun h => hxy (toList_inj h))
            go_wp2
            go_quiet (fail)
            go_wp2
            go_ret
            exact same_ret k (lcp_uniq (by omega) HE.out (fun _ e => hxy (by rw [HX.out, HY.out, e]))) ⟨_, rfl⟩
      · have l3 : ((x.size : Int) != (y.size : Int)) = true := by rw [bne_iff_ne]; omega
        go_wp2
        go_quiet (fail)
        go_wp2
        go_ret
        exact same_ret k (lcp_uniq (by omega) HE.out (fun _ e => hsz (by rw [HX.out, HY.out, e]))) ⟨_, rfl⟩
    · go_wp2
      go_ret
      exact same_ret nb (lcp_uniq (Nat.le_refl _) (fun j hj => HE.out j (by omega)) (fun h => absurd h (Nat.lt_irrefl _))) ⟨_, rfl⟩
end Go.Proofs.Qxb6605503a
