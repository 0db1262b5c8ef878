import Derived.Test.Qxb6605551aArr
namespace Go.Proofs.Qxb6605551a
open Go.RowKit

/-- The memory of packOrder: the rows L, the other row N, the table St, the shift s. -/
structure Env (w : World) (n : Nat) (L : List Nat) (ra nb pb s : Nat) (N : Nat → Nat) (St : Nat → Nat) (wr : World) : Prop where
  ab : (ra = w.heap.size ∧ nb = w.heap.size + 1) ∨ (ra = w.heap.size + 1 ∧ nb = w.heap.size)
  hpb : w.heap.size + 3 ≤ pb
  rowA : wr.rowIs ra 29 n (fun i => .int .u32 ((L.getD i 0 : Nat) : Int))
  rowB : wr.rowIs nb 29 n (fun i => .int .u32 ((N i : Nat) : Int))
  rowS : wr.rowIs (w.heap.size + 2) 58 2048 (fun d => .int .i64 ((St d : Nat) : Int))
  sh : wr.cell? ⟨pb, 0, none⟩ = some (.int .i64 (s : Int))
  shf : wr.frozen? ⟨pb, 0, none⟩ = false
  bel : Below w.heap.size w wr

section
variable {w : World} {n : Nat} {L : List Nat} {ra nb pb s : Nat} {N St : Nat → Nat} {wr : World}

theorem Env.setS (h : Env w n L ra nb pb s N St wr) (d v : Nat) : Env w n L ra nb pb s N (fun x => if x = d then v else St x) (wr.setCell ⟨w.heap.size + 2, d, none⟩ (.int .i64 (v : Int))) := by
  have h1 := h.ab; have h2 := h.hpb
  refine ⟨h1, h2, h.rowA.setOther (by show ra ≠ w.heap.size + 2; omega) _, h.rowB.setOther (by show nb ≠ w.heap.size + 2; omega) _, (h.rowS.set d _).congr (fun x _ => by split <;> rfl), ?_, ?_, h.bel.setCell (by show w.heap.size ≤ w.heap.size + 2; omega) _⟩
  · rw [World.cell?_setCell_other _ _ _ _ (fun e => by have := congrArg Addr.block e; simp at this; omega)]; exact h.sh
  · have := h.shf
    rw [← this]
    exact World.frozen?_of_block (Below.heap_setCell _ _ _ _ (by show pb ≠ w.heap.size + 2; omega))
theorem Env.setB (h : Env w n L ra nb pb s N St wr) (p r : Nat) : Env w n L ra nb pb s (fun x => if x = p then r else N x) St (wr.setCell ⟨nb, p, none⟩ (.int .u32 (r : Int))) := by
  have h1 := h.ab; have h2 := h.hpb
  refine ⟨h1, h2, h.rowA.setOther (by show ra ≠ nb; omega) _, (h.rowB.set p _).congr (fun x _ => by split <;> rfl), h.rowS.setOther (by show w.heap.size + 2 ≠ nb; omega) _, ?_, ?_, h.bel.setCell (by show w.heap.size ≤ nb; omega) _⟩
  · rw [World.cell?_setCell_other _ _ _ _ (fun e => by have := congrArg Addr.block e; simp at this; omega)]; exact h.sh
  · have := h.shf
    rw [← this]
    exact World.frozen?_of_block (Below.heap_setCell _ _ _ _ (by show pb ≠ nb; omega))
theorem Env.clear {w' : World} (h : Env w n L ra nb pb s N St wr) (hg : wr.grownBy w' (some (w.heap.size + 2))) (hr : w'.rowIs (w.heap.size + 2) 58 2048 (fun _ => .int .i64 0)) : Env w n L ra nb pb s N (fun _ => 0) w' := by
  have h1 := h.ab; have h2 := h.hpb
  have hpl : pb < wr.heap.size := World.block_lt_of_cell? _ _ h.sh
  have hbs := h.bel.size
  refine ⟨h1, h2, h.rowA.of_block (hg.block ra h.rowA.lt (by simp; omega)), h.rowB.of_block (hg.block nb h.rowB.lt (by simp; omega)), hr.congr (fun _ _ => rfl), ?_, ?_, h.bel.grown hg hbs (fun k hk => by have := Option.some.inj hk; omega)⟩
  · rw [← h.sh]; exact World.cell?_of_block (hg.block pb hpl (by simp; omega))
  · rw [← h.shf]; exact World.frozen?_of_block (hg.block pb hpl (by simp; omega))
/-- The rows change places. -/
theorem Env.swap {L' : List Nat} {N' : Nat → Nat} (h : Env w n L ra nb pb s N St wr) (e1 : ∀ i, i < n → N i = L'.getD i 0) (e2 : ∀ i, i < n → L.getD i 0 = N' i) : Env w n L' nb ra pb s N' St wr :=
  ⟨by have := h.ab; omega, h.hpb, h.rowB.congr (fun i hi => by rw [e1 i hi]), h.rowA.congr (fun i hi => by rw [e2 i hi]), h.rowS, h.sh, h.shf, h.bel⟩
/-- The shift goes on, in a new variable. -/
theorem Env.next (h : Env w n L ra nb pb s N St wr) (s' : Nat) : Env w n L ra nb wr.heap.size s' N St (wr.alloc (.cells #[.int .i64 (s' : Int)] 3)) := by
  have hbs := h.bel.size
  have hpl : pb < wr.heap.size := World.block_lt_of_cell? _ _ h.sh
  have h2 := h.hpb
  exact ⟨h.ab, by omega, h.rowA.alloc _, h.rowB.alloc _, h.rowS.alloc _, by simp [go_sem], by simp [go_sem], h.bel.alloc hbs _⟩
end

/-- The closure digit at row r. -/
theorem digit_at (Z : Nat → Int) (s r b : Nat) (w : World) (hs : s = 0 ∨ s = 11 ∨ s = 22 ∨ s = 33 ∨ s = 44 ∨ s = 55) (hc : w.cell? ⟨b, 0, none⟩ = some (.int .i64 (s : Int))) :
    Calls Try.prog 24 #[.int .i64 (Z r), .pointer (some ⟨b, 0, none⟩)] w fun e w' => e = .returned (.int .i64 ((dig Z s r : Nat) : Int)) ∧ w' = w := by
  have h := digit_any (Z r) s b w hs hc
  have e : ((dig Z s r : Nat) : Int) = Z r / 2 ^ s % 2048 := by unfold dig; omega
  rw [e]
  exact h
theorem len_any (xb : Nat) (a : Option Addr) (n c : Nat) (w : World) (hx : w.cell? ⟨xb, 3, none⟩ = some (.slice a n c)) :
    Calls Try.prog 23 #[.pointer (some ⟨xb, 0, none⟩)] w fun e w' => e = .returned (.int .i64 n) ∧ w' = w := by
  go_enter Try.func23, Try.ntmps23
  go_wp2
  go_ret
  exact ⟨rfl, rfl⟩
end Go.Proofs.Qxb6605551a
