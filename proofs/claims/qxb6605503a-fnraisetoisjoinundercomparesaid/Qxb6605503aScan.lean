/- WHAT raiseTo's SCAN KEEPS: no Go in sight. -/
import Derived.Test.Qxb6605503aOrder
namespace Go.Proofs.Qxb6605503a

/-- k more hosts are the same from d and s on, and no more. -/
structure IsLcp (N ns : Nat) (S SS : Nat → ByteArray) (d s k : Nat) : Prop where
  kd : d + k ≤ N
  ks : s + k ≤ ns
  eq : ∀ t, t < k → S (d + t) = SS (s + t)
  ne : d + k < N → s + k < ns → S (d + k) ≠ SS (s + k)
theorem isLcp_of {N ns S SS d s k} (hd : d ≤ N) (hs : s ≤ ns) (h : k = lcp (min (N - d) (ns - s)) (fun i => S (i + d)) (fun i => SS (i + s))) : IsLcp N ns S SS d s k := by
  obtain ⟨i1, i2, i3⟩ := lcp_spec (min (N - d) (ns - s)) (fun i => S (i + d)) (fun i => SS (i + s))
  rw [← h] at i1 i2 i3
  refine ⟨by omega, by omega, fun t ht => ?_, fun h1 h2 => ?_⟩
  · rw [Nat.add_comm d t, Nat.add_comm s t]; exact i2 t ht
  · rw [Nat.add_comm d k, Nat.add_comm s k]; exact i3 (by omega)

/-- d entries of dst and s of src are behind the scan; kept runs; from restD and restS on the runs are not kept. -/
structure Scan (N ns : Nat) (S SS : Nat → ByteArray) (kept restD restS d s : Nat) (rd rs rn : Nat → Nat) : Prop where
  k8 : kept ≤ 8
  runs : ∀ r, r < kept → 0 < rn r ∧ rd r + rn r ≤ N ∧ rs r + rn r ≤ ns ∧ ∀ t, t < rn r → S (rd r + t) = SS (rs r + t)
  cov : ∀ i, i < s → (∃ r, r < kept ∧ rs r ≤ i ∧ i < rs r + rn r) ∨ restS ≤ i
  rS : restS ≤ ns
  rD : restD ≤ N
  rest : restS < ns → restS ≤ s ∧ restD ≤ d
  loc : ∀ i, restS ≤ i → i < s → ∃ j, restD ≤ j ∧ j < N ∧ S j = SS i
  sub : ∀ i, i < s → ∃ j, j < N ∧ S j = SS i
  hd : d ≤ N
  hs : s ≤ ns

theorem scan_start (N ns : Nat) (S SS : Nat → ByteArray) : Scan N ns S SS 0 N ns 0 0 (fun _ => 0) (fun _ => 0) (fun _ => 0) :=
  ⟨by omega, fun r hr => by omega, fun i hi => by omega, Nat.le_refl _, Nat.le_refl _, fun h => by omega, fun i _ hi => by omega, fun i hi => by omega, by omega, by omega⟩

section
variable {N ns : Nat} {S SS : Nat → ByteArray} {kept restD restS d s k : Nat} {rd rs rn : Nat → Nat}

theorem Scan.none (h : Scan N ns S SS kept restD restS d s rd rs rn) : Scan N ns S SS kept restD restS (d + 0) (s + 0) rd rs rn := h

theorem Scan.keep (h : Scan N ns S SS kept restD restS d s rd rs rn) (l : IsLcp N ns S SS d s k) (h8 : kept < 8) (h0 : 0 < k) :
    Scan N ns S SS (kept + 1) restD restS (d + k) (s + k) (fun r => if r = kept then d else rd r) (fun r => if r = kept then s else rs r) (fun r => if r = kept then k else rn r) := by
  have l1 := l.kd; have l2 := l.ks
  refine ⟨by omega, fun r hr => ?_, fun i hi => ?_, h.rS, h.rD, fun g => ?_, fun i h1 h2 => ?_, fun i hi => ?_, by omega, by omega⟩
  · by_cases e : r = kept
    · simp only [if_pos e]; exact ⟨h0, l.kd, l.ks, l.eq⟩
    · simp only [if_neg e]; exact h.runs r (by omega)
  · by_cases g : i < s
    · rcases h.cov i g with ⟨r, h1, h2, h3⟩ | h1
      · exact .inl ⟨r, by omega, by simp only [if_neg (show r ≠ kept by omega)]; exact ⟨h2, h3⟩⟩
      · exact .inr h1
    · exact .inl ⟨kept, by omega, by simp only [if_pos]; omega⟩
  · have := h.rest g; omega
  · by_cases g : i < s
    · exact h.loc i h1 g
    · have e := l.eq (i - s) (by omega)
      rw [show s + (i - s) = i from by omega] at e
      have := h.rest (by omega)
      exact ⟨d + (i - s), by omega, by omega, e⟩
  · by_cases g : i < s
    · exact h.sub i g
    · have e := l.eq (i - s) (by omega)
      rw [show s + (i - s) = i from by omega] at e
      exact ⟨d + (i - s), by omega, e⟩

theorem Scan.over (h : Scan N ns S SS kept restD restS d s rd rs rn) (l : IsLcp N ns S SS d s k) (hr : restS < ns) :
    Scan N ns S SS kept restD restS (d + k) (s + k) rd rs rn := by
  have l1 := l.kd; have l2 := l.ks; have l3 := h.rest hr
  refine ⟨h.k8, h.runs, fun i hi => ?_, h.rS, h.rD, fun _ => by omega, fun i h1 h2 => ?_, fun i hi => ?_, by omega, by omega⟩
  · by_cases g : i < s
    · exact h.cov i g
    · exact .inr (by omega)
  · by_cases g : i < s
    · exact h.loc i h1 g
    · have e := l.eq (i - s) (by omega)
      rw [show s + (i - s) = i from by omega] at e
      exact ⟨d + (i - s), by omega, by omega, e⟩
  · by_cases g : i < s
    · exact h.sub i g
    · have e := l.eq (i - s) (by omega)
      rw [show s + (i - s) = i from by omega] at e
      exact ⟨d + (i - s), by omega, e⟩

theorem Scan.rests (h : Scan N ns S SS kept restD restS d s rd rs rn) (hr : restS = ns) (hs : s < ns) :
    Scan N ns S SS kept d s d s rd rs rn := by
  refine ⟨h.k8, h.runs, fun i hi => ?_, h.hs, h.hd, fun _ => ⟨Nat.le_refl _, Nat.le_refl _⟩, fun i h1 h2 => by omega, h.sub, h.hd, h.hs⟩
  rcases h.cov i hi with h1 | h1
  · exact .inl h1
  · omega

theorem Scan.next (h : Scan N ns S SS kept restD restS d s rd rs rn) (hd : d < N) : Scan N ns S SS kept restD restS (d + 1) s rd rs rn :=
  ⟨h.k8, h.runs, h.cov, h.rS, h.rD, fun g => by have := h.rest g; omega, h.loc, h.sub, hd, h.hs⟩
end

/-- Every host of dst behind the scan is below src's next. -/
def Under (ns : Nat) (S SS : Nat → ByteArray) (d s : Nat) : Prop := s < ns → ∀ j, j < d → ltS (S j) (SS s) = true
theorem Under.run {N ns S SS d s k} (h : Under ns S SS d s) (ss : Sorted ns SS) (l : IsLcp N ns S SS d s k) : Under ns S SS (d + k) (s + k) := by
  intro hs j hj
  by_cases g : j < d
  · have h1 := h (by omega) j g
    by_cases hk : k = 0
    · rw [hk]; exact h1
    · exact ltS_trans h1 (ss.lt' (by omega) hs)
  · have e := l.eq (j - d) (by omega)
    rw [show d + (j - d) = j from by omega] at e
    rw [e]
    exact ss.lt' (by omega) hs
theorem Under.next {ns S SS d s} (h : Under ns S SS d s) (hd : s < ns → ltS (S d) (SS s) = true) : Under ns S SS (d + 1) s := by
  intro hs j hj
  by_cases g : j < d
  · exact h hs j g
  · obtain rfl : j = d := by omega
    exact hd hs
theorem Under.lacks {N ns S SS d s} (h : Under ns S SS d s) (so : Sorted N S) (hs : s < ns) (hd : d < N → ltS (SS s) (S d) = true) : ∀ j, j < N → S j ≠ SS s := by
  intro j hj
  by_cases g : j < d
  · exact ltS_ne (h hs j g)
  · have h1 := hd (by omega)
    by_cases e : j = d
    · subst e; exact (ltS_ne h1).symm
    · exact (ltS_ne (ltS_trans h1 (so.lt' (by omega) hj))).symm

/-- The counts raised to src's. -/
def fullC (S : Nat → ByteArray) (C : Nat → Int) (ns : Nat) (SS : Nat → ByteArray) (CS : Nat → Int) (j : Nat) : Int := max (C j) (look ns SS CS (S j))

/-- The first r runs are raised. -/
structure Mid (N ns : Nat) (S SS : Nat → ByteArray) (C CS : Nat → Int) (rd rn : Nat → Nat) (r : Nat) (Cur : Nat → Int) : Prop where
  or : ∀ j, j < N → Cur j = C j ∨ Cur j = fullC S C ns SS CS j
  done : ∀ q, q < r → ∀ t, t < rn q → Cur (rd q + t) = fullC S C ns SS CS (rd q + t)
theorem mid_start (N ns S SS C CS rd rn) : Mid N ns S SS C CS rd rn 0 C := ⟨fun _ _ => .inl rfl, fun q hq => by omega⟩

theorem look_drop : ∀ (k n : Nat) (S : Nat → ByteArray) (C : Nat → Int) (h : ByteArray), k ≤ n → (∀ i, i < k → S i ≠ h) → look n S C h = look (n - k) (fun i => S (i + k)) (fun i => C (i + k)) h
  | 0, n, S, C, h, _, _ => rfl
  | k + 1, 0, _, _, _, hk, _ => by omega
  | k + 1, n + 1, S, C, h, hk, hm => by
    rw [look, if_neg (hm 0 (by omega)), look_drop k n (fun i => S (i + 1)) (fun i => C (i + 1)) h (by omega) (fun i hi => hm (i + 1) (by omega)), show n + 1 - (k + 1) = n - k from by omega]
    rfl
end Go.Proofs.Qxb6605503a
