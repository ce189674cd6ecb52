import PyProof.Rows.All
import Wide.All
import OpenK.AllK
import Wide.FinOn
import PyProof.Examples.SiftDownOps
import Lean
import PySem.Challenge.RW_oy0030_01
set_option Elab.async false
set_option linter.unusedVariables false
set_option linter.unusedSimpArgs false
section
/-! The plain side: rows as functions, the sifts, what they ask. -/
namespace Mine

noncomputable def upd (f : Nat → Nat) (i x : Nat) : Nat → Nat := fun j => if j = i then x else f j
theorem upd_same (f : Nat → Nat) (i x : Nat) : upd f i x i = x := by simp [upd]
theorem upd_ne (f : Nat → Nat) {i j : Nat} (x : Nat) (h : j ≠ i) : upd f i x j = f j := by simp [upd, h]

noncomputable abbrev Log := List (Nat × Nat)

/-- _siftdown's loop and its last store: x is the new item, fuel at least pos -/
noncomputable def sd (v : Nat → Int) (x start : Nat) : Nat → (Nat → Nat) → Nat → Log → (Nat → Nat) × Log
  | 0, f, pos, log => (upd f pos x, log)
  | k + 1, f, pos, log =>
    if start < pos then
      if v x < v (f ((pos - 1) / 2)) then sd v x start k (upd f pos (f ((pos - 1) / 2))) ((pos - 1) / 2) (log ++ [(x, f ((pos - 1) / 2))])
      else (upd f pos x, log ++ [(x, f ((pos - 1) / 2))])
    else (upd f pos x, log)

/-- the child that _siftup goes to -/
noncomputable def child (v : Nat → Int) (n : Nat) (f : Nat → Nat) (c : Nat) : Nat :=
  if c + 1 < n then (if v (f c) < v (f (c + 1)) then c else c + 1) else c
noncomputable def childLog (n : Nat) (f : Nat → Nat) (c : Nat) (log : Log) : Log := if c + 1 < n then log ++ [(f c, f (c + 1))] else log

/-- _siftup's loop -/
noncomputable def down (v : Nat → Int) (n : Nat) : Nat → (Nat → Nat) → Nat → Log → (Nat → Nat) × Nat × Log
  | 0, f, pos, log => (f, pos, log)
  | k + 1, f, pos, log =>
    if 2 * pos + 1 < n then
      down v n k (upd f pos (f (child v n f (2 * pos + 1)))) (child v n f (2 * pos + 1)) (childLog n f (2 * pos + 1) log)
    else (f, pos, log)

noncomputable def su (v : Nat → Int) (n : Nat) (f : Nat → Nat) (pos : Nat) (log : Log) : (Nat → Nat) × Log :=
  let d := down v n n f pos log
  sd v (f pos) pos d.2.1 (upd d.1 d.2.1 (f pos)) d.2.1 d.2.2

/-- heapify's loop: i more calls to come, at i - 1, .. , 0 -/
noncomputable def hy (v : Nat → Int) (n : Nat) : Nat → (Nat → Nat) → Log → (Nat → Nat) × Log
  | 0, f, log => (f, log)
  | i + 1, f, log => let r := su v n f i log; hy v n i r.1 r.2

/-- pushes: k pushed so far; rest to come -/
noncomputable def pu (v : Nat → Int) (k : Nat) (f : Nat → Nat) (log : Log) : (Nat → Nat) × Log := sd v k 0 k (upd f k k) k log
noncomputable def pus (v : Nat → Int) : Nat → (Nat → Nat) × Log × List Nat
  | 0 => (fun _ => 0, [], [])
  | k + 1 => let r := pus v k; let q := pu v k r.1 r.2.1; (q.1, q.2, r.2.2 ++ [q.2.length - r.2.1.length])

section congr
variable {v v' : Nat → Int} (hv : ∀ a b, v a < v b ↔ v' a < v' b)
include hv
theorem sd_congr (x start : Nat) : ∀ k f pos log, sd v x start k f pos log = sd v' x start k f pos log
  | 0, _, _, _ => rfl
  | k + 1, f, pos, log => by
    unfold sd
    simp only [hv, sd_congr x start k]
theorem child_congr (n : Nat) (f : Nat → Nat) (c : Nat) : child v n f c = child v' n f c := by unfold child; simp only [hv]
theorem down_congr (n : Nat) : ∀ k f pos log, down v n k f pos log = down v' n k f pos log
  | 0, _, _, _ => rfl
  | k + 1, f, pos, log => by
    unfold down
    simp only [child_congr hv, down_congr n k]
theorem su_congr (n : Nat) (f : Nat → Nat) (pos : Nat) (log : Log) : su v n f pos log = su v' n f pos log := by
  unfold su
  simp only [down_congr hv, sd_congr hv]
theorem hy_congr (n : Nat) : ∀ i f log, hy v n i f log = hy v' n i f log
  | 0, _, _ => rfl
  | i + 1, f, log => by
    unfold hy
    simp only [su_congr hv, hy_congr n i]
theorem pus_congr : ∀ k, pus v k = pus v' k
  | 0 => rfl
  | k + 1 => by
    unfold pus pu
    simp only [pus_congr k, sd_congr hv]
end congr

/-! how many are asked -/
/-- steps up from p to s -/
noncomputable def ups (s : Nat) : Nat → Nat → Nat
  | 0, _ => 0
  | k + 1, p => if s < p then ups s k ((p - 1) / 2) + 1 else 0
theorem sd_len (v : Nat → Int) (x start : Nat) : ∀ k f pos log, (sd v x start k f pos log).2.length ≤ log.length + ups start k pos
  | 0, _, _, _ => by simp [sd, ups]
  | k + 1, f, pos, log => by
    unfold sd ups
    split
    · split
      · have := sd_len v x start k (upd f pos (f ((pos - 1) / 2))) ((pos - 1) / 2) (log ++ [(x, f ((pos - 1) / 2))])
        simp only [List.length_append, List.length_cons, List.length_nil] at this ⊢
        omega
      · simp only [List.length_append, List.length_cons, List.length_nil]; omega
    · simp
theorem sd_len_ge (v : Nat → Int) (x start : Nat) : ∀ k f pos log, log.length ≤ (sd v x start k f pos log).2.length
  | 0, _, _, _ => by simp [sd]
  | k + 1, f, pos, log => by
    unfold sd
    split
    · split
      · have := sd_len_ge v x start k (upd f pos (f ((pos - 1) / 2))) ((pos - 1) / 2) (log ++ [(x, f ((pos - 1) / 2))])
        simp only [List.length_append, List.length_cons, List.length_nil] at this ⊢
        omega
      · simp only [List.length_append]; omega
    · exact Nat.le_refl _
theorem sd_len_pos (v : Nat → Int) (x start k : Nat) (f : Nat → Nat) (pos : Nat) (log : Log) (h : start < pos) : log.length + 1 ≤ (sd v x start (k + 1) f pos log).2.length := by
  unfold sd
  rw [if_pos h]
  split
  · have := sd_len_ge v x start k (upd f pos (f ((pos - 1) / 2))) ((pos - 1) / 2) (log ++ [(x, f ((pos - 1) / 2))])
    simp only [List.length_append, List.length_cons, List.length_nil] at this ⊢
    omega
  · simp
/-- more fuel does not matter -/
theorem ups_fuel (s : Nat) : ∀ k p, p ≤ k → ups s k p = ups s p p
  | 0, p, h => by have : p = 0 := by omega
                  subst this; rfl
  | k + 1, 0, _ => by simp [ups]
  | k + 1, p + 1, h => by
    unfold ups
    split
    · have h1 := ups_fuel s k ((p + 1 - 1) / 2) (by omega)
      have h2 := ups_fuel s p ((p + 1 - 1) / 2) (by omega)
      rw [h1, h2]
    · rfl
noncomputable def mc (n : Nat) : Nat → Nat → Nat
  | 0, _ => 0
  | k + 1, i => if 2 * i + 2 < n then 2 + max (mc n k (2 * i + 1)) (mc n k (2 * i + 2)) else if 2 * i + 1 < n then 1 + mc n k (2 * i + 1) else 0
theorem child_or (v : Nat → Int) (n : Nat) (f : Nat → Nat) (c : Nat) : child v n f c = c ∨ (c + 1 < n ∧ child v n f c = c + 1) := by
  unfold child
  split
  · split
    · exact .inl rfl
    · exact .inr ⟨by assumption, rfl⟩
  · exact .inl rfl
theorem ups_child {s pos c : Nat} (hs : s ≤ pos) (hc : (c - 1) / 2 = pos) (h0 : 0 < c) : ups s c c = ups s pos pos + 1 := by
  cases c with
  | zero => omega
  | succ c =>
    have e : ups s (c + 1) (c + 1) = if s < c + 1 then ups s c ((c + 1 - 1) / 2) + 1 else 0 := rfl
    rw [e, if_pos (by omega), hc, ups_fuel s c pos (by omega)]
theorem down_len (v : Nat → Int) (n s : Nat) : ∀ k f pos log, s ≤ pos → let d := down v n k f pos log; d.2.2.length + ups s d.2.1 d.2.1 ≤ log.length + ups s pos pos + mc n k pos
  | 0, f, pos, log, _ => by simp [down, mc]
  | k + 1, f, pos, log, hs => by
    intro d
    show (down v n (k + 1) f pos log).2.2.length + ups s (down v n (k + 1) f pos log).2.1 (down v n (k + 1) f pos log).2.1 ≤ _
    unfold down mc
    by_cases h1 : 2 * pos + 1 < n
    · rw [if_pos h1]
      have hc := child_or v n f (2 * pos + 1)
      have hcp : (child v n f (2 * pos + 1) - 1) / 2 = pos ∧ 0 < child v n f (2 * pos + 1) ∧ s ≤ child v n f (2 * pos + 1) := by
        rcases hc with hc | ⟨_, hc⟩ <;> rw [hc] <;> omega
      have ih := down_len v n s k (upd f pos (f (child v n f (2 * pos + 1)))) (child v n f (2 * pos + 1)) (childLog n f (2 * pos + 1) log) hcp.2.2
      have hu := ups_child hs hcp.1 hcp.2.1
      dsimp only at ih
      rw [hu] at ih
      by_cases h2 : 2 * pos + 2 < n
      · rw [if_pos h2]
        have hl : (childLog n f (2 * pos + 1) log).length = log.length + 1 := by unfold childLog; rw [if_pos (by omega)]; simp
        rw [hl] at ih
        have hm : mc n k (child v n f (2 * pos + 1)) ≤ max (mc n k (2 * pos + 1)) (mc n k (2 * pos + 2)) := by
          rcases hc with hc | ⟨_, hc⟩
          · rw [hc]; exact Nat.le_max_left _ _
          · rw [hc]; exact Nat.le_max_right _ _
        omega
      · rw [if_neg h2, if_pos h1]
        have hl : (childLog n f (2 * pos + 1) log).length = log.length := by unfold childLog; rw [if_neg (by omega)]
        rw [hl] at ih
        have hc' : child v n f (2 * pos + 1) = 2 * pos + 1 := by rcases hc with hc | ⟨h, _⟩ <;> first | exact hc | omega
        rw [hc'] at ih ⊢
        omega
    · rw [if_neg h1, if_neg (by omega), if_neg h1]
      simp
theorem ups_self (s : Nat) : ∀ k, ups s k s = 0
  | 0 => rfl
  | k + 1 => by simp [ups]
theorem su_len (v : Nat → Int) (n : Nat) (f : Nat → Nat) (pos : Nat) (log : Log) : (su v n f pos log).2.length ≤ log.length + mc n n pos := by
  unfold su
  have h1 := down_len v n pos n f pos log (Nat.le_refl _)
  dsimp only at h1 ⊢
  have h2 := sd_len v (f pos) pos (down v n n f pos log).2.1 (upd (down v n n f pos log).1 (down v n n f pos log).2.1 (f pos)) (down v n n f pos log).2.1 (down v n n f pos log).2.2
  rw [ups_self] at h1
  omega
noncomputable def mcs (n : Nat) : Nat → Nat
  | 0 => 0
  | i + 1 => mc n n i + mcs n i
theorem hy_len (v : Nat → Int) (n : Nat) : ∀ i f log, (hy v n i f log).2.length ≤ log.length + mcs n i
  | 0, _, _ => by simp [hy, mcs]
  | i + 1, f, log => by
    unfold hy mcs
    have h1 := su_len v n f i log
    have h2 := hy_len v n i (su v n f i log).1 (su v n f i log).2
    dsimp only
    omega

/-! a heap is made -/
/-- every child is no less than the one over it, from s on -/
noncomputable def HF (v : Nat → Int) (n : Nat) (f : Nat → Nat) (s : Nat) : Prop := ∀ k, 0 < k → k < n → s ≤ (k - 1) / 2 → v (f ((k - 1) / 2)) ≤ v (f k)
inductive Desc (i : Nat) : Nat → Prop
  | refl : Desc i i
  | step {p c : Nat} : Desc i p → 0 < c → (c - 1) / 2 = p → Desc i c
theorem Desc.le {i p : Nat} (h : Desc i p) : i ≤ p := by
  induction h with
  | refl => exact Nat.le_refl _
  | step _ h1 h2 ih => omega
theorem Desc.up {i p : Nat} (h : Desc i p) (hp : i < p) : Desc i ((p - 1) / 2) := by
  cases h with
  | refl => omega
  | step h1 _ h2 => rw [h2]; exact h1
/-- the hole at pos on its way down -/
structure DI (v : Nat → Int) (n i : Nat) (f : Nat → Nat) (pos : Nat) : Prop where
  desc : Desc i pos
  lt : pos < n
  a : ∀ k, 0 < k → k < n → i ≤ (k - 1) / 2 → k ≠ pos → (k - 1) / 2 ≠ pos → v (f ((k - 1) / 2)) ≤ v (f k)
  b : i < pos → ∀ c, 0 < c → c < n → (c - 1) / 2 = pos → v (f ((pos - 1) / 2)) ≤ v (f c)
theorem child_lt {v : Nat → Int} {n : Nat} {f : Nat → Nat} {c : Nat} (h : c < n) : child v n f c < n := by
  rcases child_or v n f c with e | ⟨e, e'⟩ <;> omega
theorem child_par {v : Nat → Int} {n : Nat} {f : Nat → Nat} {pos : Nat} : (child v n f (2 * pos + 1) - 1) / 2 = pos ∧ 0 < child v n f (2 * pos + 1) := by
  rcases child_or v n f (2 * pos + 1) with e | ⟨_, e⟩ <;> rw [e] <;> omega
theorem child_min {v : Nat → Int} {n : Nat} {f : Nat → Nat} {pos k : Nat} (h0 : 0 < k) (hk : k < n) (hp : (k - 1) / 2 = pos) : v (f (child v n f (2 * pos + 1))) ≤ v (f k) := by
  have : k = 2 * pos + 1 ∨ k = 2 * pos + 2 := by omega
  unfold child
  rcases this with e | e
  · subst e
    split
    · split
      · exact Int.le_refl _
      · rename_i h; exact Int.not_lt.mp h
    · exact Int.le_refl _
  · subst e
    rw [if_pos (by omega)]
    split
    · rename_i h; exact Int.le_of_lt h
    · exact Int.le_refl _
theorem DI.step {v : Nat → Int} {n i : Nat} {f : Nat → Nat} {pos : Nat} (D : DI v n i f pos) (h : 2 * pos + 1 < n) :
    DI v n i (upd f pos (f (child v n f (2 * pos + 1)))) (child v n f (2 * pos + 1)) := by
  obtain ⟨hp, h0⟩ := child_par (v := v) (n := n) (f := f) (pos := pos)
  have hl := child_lt (v := v) (f := f) h
  have hmin := fun k h1 h2 h3 => child_min (v := v) (n := n) (f := f) (pos := pos) (k := k) h1 h2 h3
  generalize child v n f (2 * pos + 1) = c at *
  have hcp : c ≠ pos := by omega
  refine ⟨.step D.desc h0 hp, hl, fun k k0 kn ki kc kp => ?_, fun _ c' c0 cn cp => ?_⟩
  · by_cases hk : k = pos
    · subst hk
      rw [upd_same]
      rw [upd_ne _ _ (show (k - 1) / 2 ≠ k by omega)]
      exact D.b (by have := D.desc.le; omega) c h0 hl hp
    · rw [upd_ne _ _ hk]
      by_cases hq : (k - 1) / 2 = pos
      · rw [hq, upd_same]; exact hmin k k0 kn hq
      · rw [upd_ne _ _ hq]; exact D.a k k0 kn ki hk hq
  · have h1 : c' ≠ pos := by have := D.desc.le; omega
    rw [hp, upd_same, upd_ne _ _ h1]
    have := D.a c' c0 cn (by rw [cp]; have := D.desc.le; omega) h1 (by rw [cp]; exact hcp)
    rw [cp] at this
    exact this
theorem down_DI {v : Nat → Int} {n i : Nat} : ∀ k {f : Nat → Nat} {pos : Nat} {log : Log}, DI v n i f pos → n ≤ k + pos →
    DI v n i (down v n k f pos log).1 (down v n k f pos log).2.1 ∧ n ≤ 2 * (down v n k f pos log).2.1 + 1
  | 0, f, pos, log, D, hk => absurd D.lt (by omega)
  | k + 1, f, pos, log, D, hk => by
    unfold down
    split
    · rename_i h
      refine down_DI k (D.step h) ?_
      have := (child_par (v := v) (n := n) (f := f) (pos := pos))
      omega
    · exact ⟨D, by dsimp only; omega⟩
/-- x on its way up, the hole at pos -/
structure UI (v : Nat → Int) (n i x : Nat) (f : Nat → Nat) (pos : Nat) : Prop where
  desc : Desc i pos
  lt : pos < n
  a : ∀ k, 0 < k → k < n → i ≤ (k - 1) / 2 → k ≠ pos → (k - 1) / 2 ≠ pos → v (f ((k - 1) / 2)) ≤ v (f k)
  b : ∀ c, 0 < c → c < n → (c - 1) / 2 = pos → v x ≤ v (f c)
  c : i < pos → ∀ c, 0 < c → c < n → (c - 1) / 2 = pos → v (f ((pos - 1) / 2)) ≤ v (f c)
theorem UI.place {v : Nat → Int} {n i x : Nat} {f : Nat → Nat} {pos : Nat} (U : UI v n i x f pos) (h : i < pos → v (f ((pos - 1) / 2)) ≤ v x) : HF v n (upd f pos x) i := by
  intro k k0 kn ki
  by_cases hk : k = pos
  · subst hk
    rw [upd_same, upd_ne _ _ (show (k - 1) / 2 ≠ k by omega)]
    exact h (by omega)
  · rw [upd_ne _ _ hk]
    by_cases hq : (k - 1) / 2 = pos
    · rw [hq, upd_same]; exact U.b k k0 kn hq
    · rw [upd_ne _ _ hq]; exact U.a k k0 kn ki hk hq
theorem UI.step {v : Nat → Int} {n i x : Nat} {f : Nat → Nat} {pos : Nat} (U : UI v n i x f pos) (hp : i < pos) (hx : v x < v (f ((pos - 1) / 2))) :
    UI v n i x (upd f pos (f ((pos - 1) / 2))) ((pos - 1) / 2) := by
  have hd := U.desc.up hp
  have hle := hd.le
  have hl := U.lt
  have sib : ∀ c, 0 < c → c < n → (c - 1) / 2 = (pos - 1) / 2 → c ≠ pos → v (f ((pos - 1) / 2)) ≤ v (f c) := fun c c0 cn cp cne => by
    have := U.a c c0 cn (by omega) cne (by omega)
    rw [cp] at this; exact this
  refine ⟨hd, by omega, fun k k0 kn ki kc kp => ?_, fun c c0 cn cp => ?_, fun hi c c0 cn cp => ?_⟩
  · by_cases hk : k = pos
    · exact absurd (by rw [hk]) kp
    · rw [upd_ne _ _ hk]
      by_cases hq : (k - 1) / 2 = pos
      · rw [hq, upd_same]; exact U.c hp k k0 kn hq
      · rw [upd_ne _ _ hq]; exact U.a k k0 kn ki hk hq
  · by_cases hc : c = pos
    · rw [hc, upd_same]; exact Int.le_of_lt hx
    · rw [upd_ne _ _ hc]; exact Int.le_trans (Int.le_of_lt hx) (sib c c0 cn cp hc)
  · have hup := hd.up hi
    have := hup.le
    have e : v (f (((pos - 1) / 2 - 1) / 2)) ≤ v (f ((pos - 1) / 2)) := U.a ((pos - 1) / 2) (by omega) (by omega) this (by omega) (by omega)
    rw [upd_ne _ _ (show ((pos - 1) / 2 - 1) / 2 ≠ pos by omega)]
    by_cases hc : c = pos
    · rw [hc, upd_same]; exact e
    · rw [upd_ne _ _ hc]; exact Int.le_trans e (sib c c0 cn cp hc)
theorem sd_HF {v : Nat → Int} {n i x : Nat} : ∀ k {f : Nat → Nat} {pos : Nat} {log : Log}, UI v n i x f pos → pos ≤ k → HF v n (sd v x i k f pos log).1 i
  | 0, f, pos, log, U, hk => U.place (by omega)
  | k + 1, f, pos, log, U, hk => by
    unfold sd
    split
    · rename_i hp
      split
      · rename_i hx; exact sd_HF k (U.step hp hx) (by omega)
      · rename_i hx; exact U.place fun _ => Int.not_lt.mp hx
    · rename_i hp; exact U.place fun h => absurd h hp
theorem su_HF {v : Nat → Int} {n i : Nat} {f : Nat → Nat} {log : Log} (hi : i < n) (H : HF v n f (i + 1)) : HF v n (su v n f i log).1 i := by
  unfold su
  have D0 : DI v n i f i := ⟨.refl, hi, fun k k0 kn ki _ kp => H k k0 kn (by omega), fun h => absurd h (Nat.lt_irrefl _)⟩
  obtain ⟨D, hle⟩ := down_DI n (log := log) D0 (by omega)
  dsimp only
  refine sd_HF _ ?_ (Nat.le_refl _)
  generalize (down v n n f i log).1 = f1 at *
  generalize (down v n n f i log).2.1 = p at *
  refine ⟨D.desc, D.lt, fun k k0 kn ki kc kp => ?_, fun c c0 cn cp => absurd cn (by omega), fun _ c c0 cn cp => absurd cn (by omega)⟩
  rw [upd_ne _ _ kc, upd_ne _ _ kp]
  exact D.a k k0 kn ki kc kp
theorem hy_HF {v : Nat → Int} {n : Nat} : ∀ i {f : Nat → Nat} {log : Log}, i ≤ n → HF v n f i → HF v n (hy v n i f log).1 0
  | 0, _, _, _, H => H
  | i + 1, f, log, hi, H => by
    unfold hy
    exact hy_HF i (by omega) (su_HF (by omega) H)
theorem hy_heap {v : Nat → Int} {n : Nat} {f : Nat → Nat} {log : Log} : HF v n (hy v n (n / 2) f log).1 0 :=
  hy_HF _ (by omega) fun k k0 kn kh => absurd kh (by omega)

/-! of the very things -/
noncomputable def rowL (n : Nat) (f : Nat → Nat) : List Nat := (List.range n).map f
theorem rowL_set {n : Nat} {f : Nat → Nat} {i x : Nat} : (rowL n f).set i x = rowL n (upd f i x) := by
  unfold rowL
  apply List.ext_getElem
  · simp
  · intro j h1 h2
    rw [List.getElem_set]
    simp only [List.getElem_map, List.getElem_range]
    by_cases h : i = j
    · subst h; rw [if_pos rfl, upd_same]
    · rw [if_neg h, upd_ne _ _ (Ne.symm h)]
theorem rowL_swap {n : Nat} {f : Nat → Nat} {i j x : Nat} (hi : i < n) (hj : j < n) (hij : i ≠ j) : (rowL n (upd (upd f i (f j)) j x)).Perm (rowL n (upd f i x)) := by
  have h := List.set_set_perm (as := rowL n (upd f i x)) (i := i) (j := j) (by simp [rowL, hi]) (by simp [rowL, hj])
  have e1 : (rowL n (upd f i x))[j]'(by simp [rowL, hj]) = f j := by simp [rowL, upd_ne _ _ (Ne.symm hij)]
  have e2 : (rowL n (upd f i x))[i]'(by simp [rowL, hi]) = x := by simp [rowL, upd_same]
  rw [e1, e2, rowL_set, rowL_set] at h
  have e3 : upd (upd (upd f i x) i (f j)) j x = upd (upd f i (f j)) j x := by
    funext k; unfold upd; split
    · rfl
    · split <;> rfl
  rw [e3] at h
  exact h
theorem sd_perm {v : Nat → Int} {n x start : Nat} : ∀ k {f : Nat → Nat} {pos : Nat} {log : Log}, pos < n → (rowL n (sd v x start k f pos log).1).Perm (rowL n (upd f pos x))
  | 0, f, pos, log, _ => List.Perm.refl _
  | k + 1, f, pos, log, h => by
    unfold sd
    split
    · split
      · exact (sd_perm k (by omega)).trans (rowL_swap h (by omega) (by omega))
      · exact List.Perm.refl _
    · exact List.Perm.refl _
theorem down_perm {v : Nat → Int} {n x : Nat} : ∀ k {f : Nat → Nat} {pos : Nat} {log : Log}, pos < n →
    (rowL n (upd (down v n k f pos log).1 (down v n k f pos log).2.1 x)).Perm (rowL n (upd f pos x)) ∧ (down v n k f pos log).2.1 < n
  | 0, f, pos, log, h => ⟨List.Perm.refl _, h⟩
  | k + 1, f, pos, log, h => by
    unfold down
    split
    · rename_i hc
      have hl := child_lt (v := v) (f := f) hc
      have hp := child_par (v := v) (n := n) (f := f) (pos := pos)
      obtain ⟨a, b⟩ := down_perm (x := x) k (f := upd f pos (f (child v n f (2 * pos + 1)))) (log := childLog n f (2 * pos + 1) log) hl
      exact ⟨a.trans (rowL_swap h hl (by omega)), b⟩
    · exact ⟨List.Perm.refl _, h⟩
theorem upd_self (f : Nat → Nat) (i : Nat) : upd f i (f i) = f := by funext k; unfold upd; split <;> simp_all
theorem upd_upd (f : Nat → Nat) (i x : Nat) : upd (upd f i x) i x = upd f i x := by funext k; unfold upd; split <;> rfl
theorem su_perm {v : Nat → Int} {n : Nat} {f : Nat → Nat} {pos : Nat} {log : Log} (h : pos < n) : (rowL n (su v n f pos log).1).Perm (rowL n f) := by
  unfold su
  obtain ⟨a, b⟩ := down_perm (v := v) (x := f pos) n (f := f) (log := log) h
  dsimp only
  have := sd_perm (v := v) (x := f pos) (start := pos) (down v n n f pos log).2.1 (f := upd (down v n n f pos log).1 (down v n n f pos log).2.1 (f pos)) (log := (down v n n f pos log).2.2) b
  rw [upd_upd] at this
  rw [upd_self] at a
  exact this.trans a
theorem hy_perm {v : Nat → Int} {n : Nat} : ∀ i {f : Nat → Nat} {log : Log}, i ≤ n → (rowL n (hy v n i f log).1).Perm (rowL n f)
  | 0, _, _, _ => List.Perm.refl _
  | i + 1, f, log, h => by
    unfold hy
    exact (hy_perm i (by omega)).trans (su_perm (by omega))
end Mine

end
section
namespace Mine
/-- _law_halves -/
noncomputable def hvs (count : Nat) : Nat → Nat → List Nat → Nat → List Nat × Nat
  | 0, _, sizes, evens => (sizes, evens)
  | k + 1, r, sizes, evens => if r ≠ 0 ∧ sizes.length < count then hvs count k (r / 2) (sizes ++ [r / 2]) (if r % 2 = 0 ∧ evens = sizes.length then evens + 1 else evens) else (sizes, evens)
noncomputable def halves (count : Nat) : List Nat × Nat := hvs count (count + 1) count [] 0
/-- _law_held_below's climb -/
noncomputable def climb (upper : Nat) : Nat → Nat → Nat
  | 0, lower => lower
  | k + 1, lower => if upper < lower then climb upper k ((lower - 1) / 2) else lower
noncomputable def heldOf (n : Nat) (log : Log) : List Nat := (List.range n).map fun k => (log.filter fun p => p.1 == k && climb p.1 p.2 p.2 == p.1).length
noncomputable def ways (n : Nat) : List Nat := (List.range n).map fun k => (halves (k + 1)).1.length - 1
noncomputable def vUp (i : Nat) : Int := i
noncomputable def vDn (i : Nat) : Int := -(i : Int)
noncomputable def upF (n : Nat) : List Nat × Log := let r := hy vUp n (n / 2) (fun i => i) []; (rowL n r.1, r.2)
theorem up_all : ∀ n, n < 22 → 5 ≤ n → (upF n).1 = List.range n ∧ (upF n).2.length = 2 * (halves n).1.sum - (halves n).2 ∧ (halves n).2 ≤ 2 * (halves n).1.sum ∧
    heldOf n (upF n).2 = (List.range n).map (fun k => ((halves n).1.filter fun s => decide (k < s)).length) ∧ mcs n (n / 2) = 2 * (halves n).1.sum - (halves n).2 ∧
    ((upF n).2.all fun p => decide (p.1 < n) && decide (p.2 < n)) = true := by decide +kernel
theorem dn_all : ∀ n, n < 22 → (pus vDn n).2.2 = ways n := by decide +kernel
theorem ways_all : ∀ k, k < 22 → (halves (k + 1)).1.length - 1 = ups 0 k k ∧ 1 ≤ (halves (k + 1)).1.length := by decide +kernel
theorem upF_of {v : Nat → Int} (hv : ∀ a b, v a < v b ↔ a < b) (n : Nat) : hy v n (n / 2) (fun i => i) [] = hy vUp n (n / 2) (fun i => i) [] :=
  hy_congr (fun a b => by rw [hv]; unfold vUp; omega) n _ _ _
theorem dnF_of {v : Nat → Int} (hv : ∀ a b, v a < v b ↔ b < a) (n : Nat) : pus v n = pus vDn n :=
  pus_congr (fun a b => by rw [hv]; unfold vDn; omega) n
/-- each push asks at most ups, and once at least but for the first -/
theorem pus_counts (v : Nat → Int) : ∀ n, (pus v n).2.2.length = n ∧ ∀ k, k < n → ∃ c, (pus v n).2.2[k]? = some c ∧ c ≤ ups 0 k k ∧ (0 < k → 1 ≤ c)
  | 0 => ⟨rfl, fun k hk => absurd hk (Nat.not_lt_zero _)⟩
  | n + 1 => by
    obtain ⟨hl, hc⟩ := pus_counts v n
    have e : (pus v (n + 1)).2.2 = (pus v n).2.2 ++ [(pu v n (pus v n).1 (pus v n).2.1).2.length - (pus v n).2.1.length] := rfl
    rw [e]
    refine ⟨by simp [hl], fun k hk => ?_⟩
    by_cases h : k < n
    · obtain ⟨c, h1, h2, h3⟩ := hc k h
      exact ⟨c, by rw [List.getElem?_append_left (by omega)]; exact h1, h2, h3⟩
    · have : k = n := by omega
      subst this
      refine ⟨_, by rw [List.getElem?_append_right (by omega), hl, Nat.sub_self]; rfl, ?_, fun h0 => ?_⟩
      · have := sd_len v k 0 k (upd (pus v k).1 k k) k (pus v k).2.1
        unfold pu; omega
      · cases k with
        | zero => omega
        | succ k =>
          have := sd_len_pos v (k + 1) 0 k (upd (pus v (k + 1)).1 (k + 1) (k + 1)) (k + 1) (pus v (k + 1)).2.1 (by omega)
          unfold pu; omega
end Mine

end
section
open PySem PySem.W PyProof.Rows
set_option linter.unusedVariables false
namespace Mine
noncomputable abbrev prog : Program := PySem.Challenge.pw_oy0030_01
noncomputable def bodyAt (i : Nat) : List Stmt := match prog.main.body[i]? with | some (.FunctionDef _ _ b _ _ _ _ _ _ _) => b | _ => []
noncomputable def parAt (i : Nat) : Arguments := match prog.main.body[i]? with | some (.FunctionDef _ a _ _ _ _ _ _ _ _) => a | _ => default
noncomputable def scoAt (i : Nat) : Scope := match prog.main.body[i]? with | some (.FunctionDef _ _ _ _ _ _ s _ _ _) => s | _ => default
noncomputable def nameAt (i : Nat) : Str := match prog.main.body[i]? with | some (.FunctionDef n _ _ _ _ _ _ _ _ _) => n | _ => default

/-- g: what is kept; muts: what may turn -/
structure Has (g h : Heap) (muts : List Addr) : Prop where
  keep : ∀ b o, g.get? b = some o → h.get? b = some o
  size : g.objs.size ≤ h.objs.size
  free : ∀ a ∈ muts, g.get? a = none
/-- a frame at L over g -/
structure Fx (g : Heap) (L : Addr) (h : Heap) (m : Str → Option Value) (muts : List Addr) : Prop extends Fr g L h m where
  free : ∀ a ∈ muts, g.get? a = none
  apart : ∀ a ∈ muts, a ≠ L
theorem Fx.has {g h : Heap} {L : Addr} {m : Str → Option Value} {muts : List Addr} (F : Fx g L h m muts) : Has g h muts :=
  ⟨F.keep, Nat.le_trans F.above (Nat.le_of_lt F.ns.lt), F.free⟩
theorem Fx.store {g h h' : Heap} {L : Addr} {m m' : Str → Option Value} {muts : List Addr} (F : Fx g L h m muts) (hn : h'.Ns L m') (hs : Heap.SameBut L h h') : Fx g L h' m' muts :=
  ⟨F.toFr.set hn hs, F.free, F.apart⟩
theorem Fx.turn {g h h' : Heap} {L a : Addr} {m : Str → Option Value} {muts : List Addr} (F : Fx g L h m muts) (ha : a ∈ muts) (hs : Heap.SameBut a h h') : Fx g L h' m muts :=
  ⟨⟨F.ns.sameBut hs (Ne.symm (F.apart a ha)), fun b o e => (hs.2 b (fun q => by rw [q, F.free a ha] at e; cases e)).trans (F.keep b o e), F.above⟩, F.free, F.apart⟩
theorem Fx.push {g h : Heap} {L : Addr} {m : Str → Option Value} {muts : List Addr} (F : Fx g L h m muts) (o : Obj) : Fx g L (h.push o) m muts := ⟨F.toFr.push o, F.free, F.apart⟩
theorem isList_same {h h' : Heap} {a b : Addr} {its : Array Value} (x : h.IsList a its) (hs : Heap.SameBut b h h') (hab : a ≠ b) : h'.IsList a its :=
  let ⟨o, ho, r⟩ := x; ⟨o, (hs.2 a hab).trans ho, r⟩
theorem isList_keep {h h' : Heap} {a : Addr} {its : Array Value} (x : h.IsList a its) (k : ∀ o, h.get? a = some o → h'.get? a = some o) : h'.IsList a its :=
  let ⟨o, ho, r⟩ := x; ⟨o, k o ho, r⟩
/-- the heap but for muts, as the keep of a call -/
theorem has_hide (h : Heap) (muts : List Addr) : Has (hideAll h muts) h muts := ⟨fun _ _ e => of_hideAll _ e, Nat.le_of_eq (hideAll_size _ _), fun _ ha => hideAll_none _ ha⟩
theorem has_sub {g h : Heap} {muts sub : List Addr} (H : Has g h muts) (hs : ∀ a ∈ sub, a ∈ muts) : ∀ b o, g.get? b = some o → (hideAll h sub).get? b = some o :=
  fun b o e => hideAll_get _ (H.keep b o e) fun q => by rw [H.free b (hs b q)] at e; cases e
/-- back in the caller -/
theorem Fx.back {g h h' : Heap} {L : Addr} {m : Str → Option Value} {muts sub : List Addr} (F : Fx g L h m muts) (hs : ∀ a ∈ sub, a ∈ muts) (H : Has (hideAll h sub) h' sub) : Fx g L h' m muts := by
  obtain ⟨oL, es, ep, hL, r⟩ := F.ns
  have nL : L ∉ sub := fun q => F.apart L (hs L q) rfl
  exact ⟨⟨⟨oL, es, ep, H.keep _ _ (hideAll_get _ hL nL), r⟩, fun b o e => H.keep b o (has_sub F.has hs b o e), F.above⟩, F.free, F.apart⟩
theorem pl_same {h h' : Heap} {a b : Addr} {its : Array Value} (x : PlainL h a its) (hs : Heap.SameBut b h h') (hab : a ≠ b) : PlainL h' a its :=
  let ⟨o, n, ho, r⟩ := x; ⟨o, n, (hs.2 a hab).trans ho, r⟩
theorem pl_keep {h h' : Heap} {a : Addr} {its : Array Value} (x : PlainL h a its) (k : ∀ o, h.get? a = some o → h'.get? a = some o) : PlainL h' a its :=
  let ⟨o, n, ho, r⟩ := x; ⟨o, n, k o ho, r⟩
theorem pl_back {h h' : Heap} {a : Addr} {its : Array Value} {sub : List Addr} (x : PlainL h a its) (H : Has (hideAll h sub) h' sub) (ha : a ∉ sub) : PlainL h' a its :=
  pl_keep x fun o e => H.keep _ _ (hideAll_get _ e ha)
theorem isList_back {h h' : Heap} {a : Addr} {its : Array Value} {sub : List Addr} (x : h.IsList a its) (H : Has (hideAll h sub) h' sub) (ha : a ∉ sub) : h'.IsList a its :=
  isList_keep x fun o e => H.keep _ _ (hideAll_get _ e ha)

/-- the pairs that were asked -/
noncomputable def PairAt (z : Addr) (h : Heap) (q : Value) (p : Int × Int) : Prop := ∃ a t u, q = .ref a ∧ h.IsList a #[.int p.1 t, .int p.2 u] ∧ z < a
inductive Pairs (z : Addr) (h : Heap) : List Value → List (Int × Int) → Prop
  | nil : Pairs z h [] []
  | cons {q p qs ps} : PairAt z h q p → Pairs z h qs ps → Pairs z h (q :: qs) (p :: ps)
theorem Pairs.length {z : Addr} {h : Heap} {qs : List Value} {ps : List (Int × Int)} (x : Pairs z h qs ps) : qs.length = ps.length := by
  induction x with
  | nil => rfl
  | cons _ _ ih => simp [ih]
theorem Pairs.snoc {z : Addr} {h : Heap} {qs : List Value} {ps : List (Int × Int)} {q : Value} {p : Int × Int} (x : Pairs z h qs ps) (y : PairAt z h q p) : Pairs z h (qs ++ [q]) (ps ++ [p]) := by
  induction x with
  | nil => exact .cons y .nil
  | cons a _ ih => exact .cons a ih
theorem Pairs.mono {z : Addr} {h h' : Heap} {qs : List Value} {ps : List (Int × Int)} (x : Pairs z h qs ps) (k : ∀ a i t j u, h.IsList a #[.int i t, .int j u] → h'.IsList a #[.int i t, .int j u]) : Pairs z h' qs ps := by
  induction x with
  | nil => exact .nil
  | cons a _ ih => obtain ⟨b, t, u, e, hl, lb⟩ := a; exact .cons ⟨b, t, u, e, k _ _ _ _ _ hl, lb⟩ ih
theorem Pairs.mono2 {z : Addr} {h h' : Heap} {qs : List Value} {ps : List (Int × Int)} (x : Pairs z h qs ps) (k : ∀ a i t j u, z < a → h.IsList a #[.int i t, .int j u] → h'.IsList a #[.int i t, .int j u]) : Pairs z h' qs ps := by
  induction x with
  | nil => exact .nil
  | cons a _ ih => obtain ⟨b, t, u, e, hl, lb⟩ := a; exact .cons ⟨b, t, u, e, k _ _ _ _ _ lb hl, lb⟩ ih
theorem list_not_ns {h : Heap} {a : Addr} {its : Array Value} {m : Str → Option Value} (x : h.IsList a its) (y : h.Ns a m) : False := by
  obtain ⟨o, e1, _, n, e2⟩ := x
  obtain ⟨o', es, ep, f1, f2, _⟩ := y
  rw [e1] at f1; cases f1; rw [e2] at f2; cases f2
theorem list_eq {h : Heap} {a : Addr} {its its' : Array Value} (x : h.IsList a its) (y : h.IsList a its') : its = its' := by
  obtain ⟨o, e1, _, n, e2⟩ := x
  obtain ⟨o', f1, _, n', f2⟩ := y
  rw [e1] at f1; cases f1; rw [e2] at f2; cases f2; rfl
/-- a list whose first thing is a ref -/
noncomputable def RefHead (its : Array Value) : Prop := its = #[] ∨ ∃ a, its[0]? = some (.ref a)
theorem pair_ne {h : Heap} {a b : Addr} {its : Array Value} {i j : Int} {t u : Tok} (x : h.IsList a #[.int i t, .int j u]) (y : h.IsList b its) (hr : RefHead its) : a ≠ b := by
  rintro rfl
  have e := list_eq x y
  subst e
  rcases hr with hr | ⟨c, hr⟩
  · have := congrArg Array.size hr; simp at this
  · simp at hr
theorem Pairs.store {z : Addr} {h h' : Heap} {qs : List Value} {ps : List (Int × Int)} {L : Addr} {m : Str → Option Value} (x : Pairs z h qs ps) (n : h.Ns L m) (hs : Heap.SameBut L h h') : Pairs z h' qs ps :=
  x.mono fun a i t j u hl => isList_same hl hs fun q => by subst q; exact list_not_ns hl n
theorem Pairs.turn {z : Addr} {h h' : Heap} {qs : List Value} {ps : List (Int × Int)} {H : Addr} {its : Array Value} (x : Pairs z h qs ps) (n : h.IsList H its) (hr : RefHead its) (hs : Heap.SameBut H h h') : Pairs z h' qs ps :=
  x.mono fun a i t j u hl => isList_same hl hs (pair_ne hl n hr)
theorem Pairs.refHead {z : Addr} {h : Heap} {qs : List Value} {ps : List (Int × Int)} (x : Pairs z h qs ps) : RefHead qs.toArray := by
  cases x with
  | nil => exact .inl rfl
  | cons a _ => obtain ⟨b, t, u, e, hl, lb⟩ := a; subst e; exact .inr ⟨b, by simp⟩
theorem Pairs.push {z : Addr} {h : Heap} {qs : List Value} {ps : List (Int × Int)} (x : Pairs z h qs ps) (o : Obj) : Pairs z (h.push o) qs ps :=
  x.mono fun a i t j u hl => hl.push o

/-- the row as it lies in a list -/
noncomputable def rowV (ka : Nat → Addr) (n : Nat) (f : Nat → Nat) : List Value := (List.range n).map fun i => .ref (ka (f i))
theorem rowV_len (ka : Nat → Addr) (n : Nat) (f : Nat → Nat) : (rowV ka n f).length = n := by simp [rowV]
theorem rowV_get {ka : Nat → Addr} {n : Nat} {f : Nat → Nat} {i : Nat} (h : i < n) : (rowV ka n f).toArray[i]? = some (.ref (ka (f i))) := by simp [rowV, h]
theorem rowV_set {ka : Nat → Addr} {n : Nat} {f : Nat → Nat} {i x : Nat} : (rowV ka n f).toArray.setIfInBounds i (.ref (ka x)) = (rowV ka n (upd f i x)).toArray := by
  unfold rowV
  rw [List.setIfInBounds_toArray]
  congr 1
  apply List.ext_getElem
  · simp
  · intro j h1 h2
    rw [List.getElem_set]
    simp only [List.getElem_map, List.getElem_range]
    by_cases h : i = j
    · subst h; rw [if_pos rfl, upd_same]
    · rw [if_neg h, upd_ne _ _ (Ne.symm h)]
theorem rowV_head (ka : Nat → Addr) (n : Nat) (f : Nat → Nat) : RefHead (rowV ka n f).toArray := by
  cases n with
  | zero => exact .inl (by simp [rowV])
  | succ n => exact .inr ⟨ka (f 0), rowV_get (by omega)⟩
noncomputable def intLog (v : Nat → Int) (log : Log) : List (Int × Int) := log.map fun p => (v p.1, v p.2)

/-- what a comparison of two keys does -/
noncomputable def LtSpec (w : World) (KW : Heap → Prop) (ka : Nat → Addr) (v : Nat → Int) (N : Nat) (Aq : Addr) : Prop :=
  ∀ (A : Around) (E : Value → Shared → Prop) (Q : Value → Shared → Prop) (g : Heap) (s : Shared) (qs : List Value) (ps : List (Int × Int)) (i j : Nat) (g0 : Heap) (L : Addr) (m : Str → Option Value),
    A.depth + 8 < recursionLimit → A.units + 64 < cLine → Fr g0 L s.heap m → KW g0 → KW g → Has g s.heap [Aq] → PlainL s.heap Aq qs.toArray → qs.length < 10000 → Pairs (ka 0) s.heap qs ps → i < N → j < N →
    (∀ h' tk q, Has g h' [Aq] → PlainL h' Aq (qs ++ [q]).toArray → Pairs (ka 0) h' (qs ++ [q]) (ps ++ [(v i, v j)]) → Q (.bool (decide (v i < v j))) { s with heap := h', toks := tk }) →
    wpAny (model prog w) A (richCompare .Lt (.ref (ka i)) (.ref (ka j))) Q E s
/-- the end of a part, behind a variable (it would be copied at every step) -/
theorem hideQ {M : Model} {A : Around} {α : Type} {m : Sem α} {Q : α → Shared → Prop} {E : Value → Shared → Prop} {s : Shared} (h : ∀ (Q' : α → Shared → Prop) (E' : Value → Shared → Prop), (∀ a s', Q a s' → Q' a s') → wpAny M A m Q' E' s) : wpAny M A m Q E s := h Q E fun _ _ x => x
/-- the goal behind a variable (a taking apart would copy it at every part) -/
theorem hideP {P : Prop} (h : ∀ P' : Prop, (P → P') → P') : P := h P id
theorem nm_of {g : Heap} {b : Addr} {o : Obj} {S : List Addr} (e : g.get? b = some o) (h : ∀ a ∈ S, g.get? a = none) : b ∉ S := fun q => by rw [h b q] at e; cases e
theorem fa1 {P : Addr → Prop} {a : Addr} {S : List Addr} (h : P a) (k : ∀ b ∈ S, P b) : ∀ b ∈ a :: S, P b := List.forall_mem_cons.mpr ⟨h, k⟩
theorem fa0 {P : Addr → Prop} : ∀ b ∈ ([] : List Addr), P b := fun _ h => nomatch h
theorem nm1 {b a : Addr} {S : List Addr} (h : b ≠ a) (k : b ∉ S) : b ∉ a :: S := fun q => (List.mem_cons.mp q).elim h k
theorem nm0 {b : Addr} : b ∉ ([] : List Addr) := fun h => nomatch h
end Mine

end
section
open PySem PySem.W PyProof.Rows
set_option linter.unusedVariables false
namespace Mine
theorem lkn {m : Str → Option Value} {y x : Str} {v w : Option Value} (hy : m y = w) (h : y ≠ x := by decide) : (if y = x then v else m y) = w := (if_neg h).trans hy
theorem lke {x : Str} {v : Value} {w : Option Value} : (if x = x then some v else w) = some v := if_pos rfl

/-- into a plain def -/
theorem enter {w : World} {A : Around} {R : Result → Shared → Prop} {s : Shared} {g : Heap} {muts : List Addr} {name : Str} {params : Arguments} {body : List Stmt} {scope : Scope} {pm cd doc : Value} {a : Addr} {o : Obj} {args : List Value} {binds : List (Str × Value)}
    (hroom : A.depth < recursionLimit) (HS : Has g s.heap muts) (hm : ∀ a ∈ muts, a < s.heap.objs.size) (ho : g.get? a = some o) (hdata : o.data = .func (Calls.docDef name params body scope pm cd doc)) (hlim : g.NoLimit) (hcd : g.CodeRec cd name)
    (hbind : bindArgs (Calls.docDef name params body scope pm cd doc) ⟨args, []⟩ = pure binds) (hloc : ∀ x ∈ binds, scope.names.lookup x.1 = some .local)
    (h : ∀ L h₁ tk, Fx g L h₁ (fun x => binds.reverse.lookup x) muts → (∀ b o, s.heap.get? b = some o → h₁.get? b = some o) → s.heap.objs.size ≤ L →
      wpAny (model prog w) (A.deeper (envOf name scope L a cd)) (execs body (envOf name scope L a cd))
        (fun f s' => R (.ok (.ret (match f with | .ret v => v | _ => .none))) s') (fun _ _ => False) { s with heap := h₁, toks := tk })
    (hco : scope.isCoroutine = false := by rfl) (hgen : scope.isGenerator = false := by rfl) (hk : scope.kind = .function := by rfl) (hcell : ∀ x ∈ scope.names, x.2 ≠ .cell := by decide) :
    codeAny (model prog w) A (.call (.ref a) ⟨args, []⟩) R s := by
  refine call_plain_ret hroom (HS.keep _ _ ho) hdata (hlim.keeps HS.keep) (hcd.keeps HS.keep) hbind hloc (fun h₁ F => ?_) hco hgen hk hcell
  exact h _ h₁ _ ⟨⟨F.ns, fun b o e => F.keep b o (HS.keep b o e), HS.size⟩, HS.free, fun b hb => Nat.ne_of_lt (hm b hb)⟩ F.keep (Nat.le_refl _)

section
variable {w : World} {A : Around} {E : Value → Shared → Prop} {s : Shared}
/-- an item of a list, by a subscript -/
theorem item_list {value slice : Expr} {a : Addr} {its : Array Value} {k : Int} {u : Tok} {x : Value} {Q : Value → Shared → Prop} (hl : s.heap.IsList a its)
    (h0 : 0 ≤ k) (hhi : k < 2 ^ 63) (hx : its[k.toNat]? = some x) (h : Q x s)
    (hs : subscripted slice false (.ref a) (.int k u) = operate [.ref a, .int k u] (getItem (.ref a) (.int k u)) := by with_unfolding_all rfl) :
    wpAny (model prog w) A (subscriptTail value slice (.ref a) (.int k u)) Q E s :=
  tail_any hl.typeIs slot_list_getitem.lookup (wpAny_getItem_list hl h0 hhi hx h) hs
end
section
variable {w : World} {A : Around} {E : Value → Shared → Prop} {s : Shared}
/-- a store into a plain list -/
theorem setItem_plain {l : Addr} {items : Array Value} {k : Int} {t : Tok} {v : Value} {Q : Unit → Shared → Prop} (hp : PlainL s.heap l items)
    (h0 : 0 ≤ k) (hfit : k < 2 ^ 63) (hn : k < items.size)
    (hQ : ∀ h', PlainL h' l (items.setIfInBounds k.toNat v) → Heap.SameBut l s.heap h' → Q () { s with heap := h' }) :
    wpAny (model prog w) A (setItem (.ref l) (.int k t) v) Q E s := by
  have hl := hp.isList
  obtain ⟨o, ne, ho, hc, hdn, hd⟩ := id hp
  unfold setItem
  try with_reducible refine wpAny_holding ?_
  first | refine wpAny_bind (wpAny_pure ?_) | skip
  refine wpAny_bind (wpAny_sequenceKey hl.typeIs (by decide) ?_)
  refine wpAny_bind (wpAny_callSpecial?_slot (name := Str.ofString "__setitem__") hl.typeIs slot_list_setitem
    (wpAny_call_entry slot_list_setitem hl.typeIs entry_list_setitem ?_ (args_list_setitem _ _ _)))
  show wpAny _ _ (Builtin.List.listSubscript? (.int k t) >>= _) _ _ s
  refine wpAny_bind (wpAny_listSubscript_int (fitsIndex_of h0 hfit) ?_)
  clear hfit
  obtain ⟨j, rfl⟩ := Int.eq_ofNat_of_zero_le h0
  have hj : j < items.size := by omega
  have hx' : items[j]? = some items[j] := Array.getElem?_eq_getElem hj
  show wpAny _ _ ((seqItemAt l j >>= fun r => pure (r.map (j, ·))) >>= _) _ _ s
  refine wpAny_bind (wpAny_bind (wpAny_seqItemAt ho hd (wpAny_pure ?_)))
  rw [hx']
  show wpAny _ _ (setSeqItemAt l j v >>= _) _ _ s
  obtain ⟨n', hd'⟩ := Obj.data_mapSeq hd (·.setIfInBounds j v)
  have hfin : PlainL (s.heap.update l (Obj.mapSeq (·.setIfInBounds j v))) l (items.setIfInBounds j v) := by
    refine ⟨_, n', Heap.get?_update_self _ ho (Obj.isFreed_of_seq hd'), (Obj.cls_mapSeq ..).trans hc, ?_, hd'⟩
    obtain ⟨c, d, dt, sl⟩ := o
    subst hd
    exact hdn
  refine wpAny_bind (wpAny_setSeqItemAt ho hd ?_)
  first
    | exact wpAny_bind (wpAny_pure (wpAny_pure ⟨.none, rfl, wpAny_pure (hQ _ hfin (Heap.SameBut.update ..))⟩))
    | exact wpAny_pure ⟨.none, rfl, wpAny_pure (hQ _ hfin (Heap.SameBut.update ..))⟩
end
theorem stx {M : Model} {A : Around} {E : Value → Shared → Prop} {s : Shared} {name : Str} {scope : Scope} {L a : Addr} {cd : Value} {g : Heap} {m : Str → Option Value} {muts : List Addr} {x : Str} {v : Value} {Q : Unit → Shared → Prop} (F : Fx g L s.heap m muts)
    (h : ∀ h', Fx g L h' (fun y => if y = x then some v else m y) muts → Heap.SameBut L s.heap h' → Q () { s with heap := h', toks := s.toks + 1 })
    (hk : scope.kind = .function := by rfl) (hl : (envOf name scope L a cd).kindOf x = some .local := by rfl) : wpAny M A (storeName (envOf name scope L a cd) x v) Q E s :=
  wpAny_storeName_local hl F.ns (fun h' hn hs => h h' (F.store hn hs) hs) (by show (scope.kind == .class || (scope.kind == .module && L != mainGlobals)) = false; rw [hk]; rfl)
theorem half_lt {p n : Nat} (h : p < n) : (p - 1) / 2 < n := Nat.lt_of_le_of_lt (Nat.le_trans (Nat.div_le_self _ _) (Nat.sub_le _ _)) h
theorem half_c {p : Nat} (h : 0 < p) : ((p : Int) - 1) / 2 = (((p - 1) / 2 : Nat) : Int) := by omega
theorem i63 {c n : Nat} (h : c < n) (hn : n < 1000) : ((c : Nat) : Int) < 2 ^ 63 := by omega
theorem rowV_sz {ka : Nat → Addr} {n : Nat} {f : Nat → Nat} {c : Nat} (h : c < n) : ((c : Nat) : Int) < (rowV ka n f).toArray.size := by simp [rowV_len]; omega
section
variable {w : World} {A : Around} {E : Value → Shared → Prop} {s : Shared} {ka : Nat → Addr} {n c : Nat} {f : Nat → Nat} {H : Addr}
/-- an item of the row -/
theorem row_item {value slice : Expr} {k : Int} {u : Tok} {Q : Value → Shared → Prop} (hl : PlainL s.heap H (rowV ka n f).toArray) (hc : c < n) (hn : n < 1000) (h : Q (.ref (ka (f c))) s) (ek : k = (c : Nat) := by rfl)
    (hs : subscripted slice false (.ref H) (.int k u) = operate [.ref H, .int k u] (getItem (.ref H) (.int k u)) := by with_unfolding_all rfl) :
    wpAny (model prog w) A (subscriptTail value slice (.ref H) (.int k u)) Q E s :=
  item_list hl.isList (by rw [ek]; exact Int.natCast_nonneg c) (by rw [ek]; exact i63 hc hn) (by rw [ek, Int.toNat_natCast]; exact rowV_get hc) h hs
theorem row_set {t : Tok} {x : Nat} {Q : Unit → Shared → Prop} (hp : PlainL s.heap H (rowV ka n f).toArray) (hc : c < n) (hn : n < 1000)
    (hQ : ∀ h', PlainL h' H (rowV ka n (upd f c x)).toArray → Heap.SameBut H s.heap h' → Q () { s with heap := h' }) :
    wpAny (model prog w) A (setItem (.ref H) (.int (c : Nat) t) (.ref (ka x))) Q E s :=
  setItem_plain hp (Int.natCast_nonneg c) (i63 hc hn) (rowV_sz hc) fun h' a b => hQ h' (by rw [Int.toNat_natCast, rowV_set] at a; exact a) b
end
structure Loc (m : Str → Option Value) (H start pos : Nat) (x : Value) : Prop where
  lH : m "heap" = some (.ref H)
  lS : ∃ t, m "startpos" = some (.int start t)
  lP : ∃ t, m "pos" = some (.int pos t)
  lN : m "newitem" = some x
inductive SdF (ka : Nat → Addr) (v : Nat → Int) (Aq H : Addr) (g : Heap) (s : Shared) (L n start x : Nat) (tg : (Nat → Nat) × Log) (r : Result) (s' : Shared) : Prop
  | mk (h' : Heap) (tk : Nat) (m : Str → Option Value) (qs : List Value) (f : Nat → Nat) (pos : Nat) (log : Log) (e0 : r = .ok .next) (e1 : s' = { s with heap := h', toks := tk }) (F : Fx g L h' m [H, Aq]) (l : Loc m H start pos (.ref (ka x)))
      (hH : PlainL h' H (rowV ka n f).toArray) (hA : PlainL h' Aq qs.toArray) (hP : Pairs (ka 0) h' qs (intLog v log)) (hp : pos < n) (ht : tg = (upd f pos x, log))
inductive SdI (ka : Nat → Addr) (v : Nat → Int) (N : Nat) (Aq H : Addr) (g : Heap) (s : Shared) (L n start x : Nat) (tg : (Nat → Nat) × Log) (k : Nat) (s' : Shared) : Prop
  | mk (h' : Heap) (tk : Nat) (m : Str → Option Value) (qs : List Value) (f : Nat → Nat) (pos : Nat) (log : Log) (ek : pos = k) (e1 : s' = { s with heap := h', toks := tk }) (F : Fx g L h' m [H, Aq]) (l : Loc m H start pos (.ref (ka x)))
      (hH : PlainL h' H (rowV ka n f).toArray) (hA : PlainL h' Aq qs.toArray) (hP : Pairs (ka 0) h' qs (intLog v log)) (hp : pos < n) (hf : ∀ i, i < n → f i < N) (hq : qs.length + pos < 10000) (ht : sd v x start pos f pos log = tg)

theorem sd_succ {v : Nat → Int} {x start : Nat} : ∀ k {f : Nat → Nat} {pos : Nat} {log : Log}, pos ≤ k → sd v x start (k + 1) f pos log = sd v x start k f pos log
  | 0, f, pos, log, h => by
    have : pos = 0 := by omega
    subst this; unfold sd; rw [if_neg (by omega)]
  | k + 1, f, pos, log, h => by
    conv => lhs; unfold sd
    conv => rhs; unfold sd
    split
    · split
      · exact sd_succ k (by omega)
      · rfl
    · rfl
theorem sd_step {v : Nat → Int} {x start : Nat} {f : Nat → Nat} {pos : Nat} {log : Log} (h : start < pos) : sd v x start pos f pos log =
    if v x < v (f ((pos - 1) / 2)) then sd v x start ((pos - 1) / 2) (upd f pos (f ((pos - 1) / 2))) ((pos - 1) / 2) (log ++ [(x, f ((pos - 1) / 2))]) else (upd f pos x, log ++ [(x, f ((pos - 1) / 2))]) := by
  cases pos with
  | zero => omega
  | succ p =>
    conv => lhs; unfold sd
    rw [if_pos h]
    split
    · have : ∀ j, (p + 1 - 1) / 2 + j = p → ∀ {f : Nat → Nat} {log : Log}, sd v x start p f ((p + 1 - 1) / 2) log = sd v x start ((p + 1 - 1) / 2) f ((p + 1 - 1) / 2) log := by
        intro j hj f log
        have key : ∀ j q, sd v x start (q + j) f q log = sd v x start q f q log := fun j => by
          induction j with
          | zero => intro q; rfl
          | succ j ih => intro q; rw [← Nat.add_assoc, sd_succ _ (by omega)]; exact ih q
        rw [← hj]
        have := key j ((p + 1 - 1) / 2)
        rw [hj] at this ⊢
        exact this
      exact this (p - (p + 1 - 1) / 2) (by omega)
    · rfl
theorem sd_stop {v : Nat → Int} {x start : Nat} {f : Nat → Nat} {pos : Nat} {log : Log} (h : ¬ start < pos) : sd v x start pos f pos log = (upd f pos x, log) := by
  cases pos with
  | zero => rfl
  | succ p => conv => lhs; unfold sd
              rw [if_neg h]

set_option maxRecDepth 100000 in
theorem siftdown_spec {w : World} {KW : Heap → Prop} {ka : Nat → Addr} {v : Nat → Int} {N : Nat} {Aq H : Addr} (kw_mono : ∀ g g', KW g → (∀ b o, g.get? b = some o → g'.get? b = some o) → KW g') (LT : LtSpec w KW ka v N Aq)
    {A : Around} {E Q : Value → Shared → Prop} {g : Heap} {s : Shared} {o : Obj} {pm cd doc : Value} {n start pos : Nat} {f : Nat → Nat} {log : Log} {qs : List Value} {t1 t2 : Tok}
    (hd : A.depth + 12 < recursionLimit) (hu : A.units + 128 < cLine) (ho : g.get? 35 = some o) (hdata : o.data = .func (Calls.docDef "_siftdown" (parAt 3) (bodyAt 3) (scoAt 3) pm cd doc)) (hlim : g.NoLimit) (hcd : g.CodeRec cd "_siftdown")
    (hKW : KW g) (HS : Has g s.heap [H, Aq]) (hne : H ≠ Aq) (hH : PlainL s.heap H (rowV ka n f).toArray) (hA : PlainL s.heap Aq qs.toArray) (hP : Pairs (ka 0) s.heap qs (intLog v log)) (hq : qs.length + pos < 10000)
    (hf : ∀ i, i < n → f i < N) (hpos : pos < n) (hn : n < 1000)
    (h : ∀ h' tk qs', Has g h' [H, Aq] → PlainL h' H (rowV ka n (sd v (f pos) start pos f pos log).1).toArray → PlainL h' Aq qs'.toArray → Pairs (ka 0) h' qs' (intLog v (sd v (f pos) start pos f pos log).2) → Q .none { s with heap := h', toks := tk }) :
    wpAny (model prog w) A (call (.ref 35) [.ref H, .int start t1, .int pos t2]) Q E s := by
  refine wpAny_call ?_
  have lH : ∀ a ∈ [H, Aq], a < s.heap.objs.size := by
    intro a ha
    simp only [List.mem_cons, List.not_mem_nil, or_false] at ha
    rcases ha with rfl | rfl
    · exact hH.lt
    · exact hA.lt
  refine enter (by omega) HS lH ho hdata hlim hcd (binds := [("heap", .ref H), ("startpos", .int start t1), ("pos", .int pos t2)]) (by rfl) (locs rfl) ?_
  intro L h₁ tk F hk hL
  have hH1 := pl_keep hH (hk _)
  have hA1 := pl_keep hA (hk _)
  have hP1 : Pairs (ka 0) h₁ qs (intLog v log) := hP.mono fun a i t j u hl => isList_keep hl (hk _)
  have mH : ∀ b ∈ [H, Aq], b ≠ L := F.apart
  refine wpAny_execs_cons (wpAny_Assign_Name (Subscript_ (ld F.toFr rfl (ld F.toFr rfl (row_item hH1 hpos hn (stx F ?_))))))
  intro h₂ F₂ hs₂
  dsimp only at F₂ hs₂ ⊢
  have mHL : H ≠ L := mH H (by simp)
  have mAL : Aq ≠ L := mH Aq (by simp)
  generalize hx : f pos = x at h F₂ hs₂
  generalize htg : sd v x start pos f pos log = target at h
  have hxN : x < N := hx ▸ hf pos hpos
  refine wpAny_execs_cons (wpAny_While (codeAny_mono (R := SdF ka v Aq H g s L n start x target)
    (codeAny_whileLoop (SdI ka v N Aq H g s L n start x target)
      ?turn pos ?init) ?fin))
  case init =>
    exact ⟨h₂, _, _, qs, f, pos, log, rfl, rfl, F₂, ⟨rfl, ⟨t1, rfl⟩, ⟨t2, rfl⟩, rfl⟩,
      pl_same hH1 hs₂ mHL, pl_same hA1 hs₂ mAL, hP1.store F.ns hs₂, hpos, hf, hq, htg⟩
  case fin =>
    rintro r s' ⟨h₃, tk₃, m₃, qs₃, f₃, pos₃, log₃, rfl, rfl, F₃, ⟨lH, ⟨ts, lS⟩, ⟨tp, lP⟩, lN⟩, hH₃, hA₃, hP₃, hpos₃, htg₃⟩
    dsimp only
    refine wpAny_execs_cons (wpAny_Assign_Subscript (ld F₃.toFr lN (ld F₃.toFr lH (ld F₃.toFr lP (row_set hH₃ hpos₃ hn ?_)))))
    intro h₄ hH₄ hs₄
    dsimp only
    refine wpAny_execs_nil ?_
    subst htg₃
    exact h h₄ _ qs₃ (F₃.turn (by simp) hs₄).has hH₄ (pl_same hA₃ hs₄ (Ne.symm hne)) (hP₃.turn hH₃.isList (rowV_head _ _ _) hs₄)
  case turn =>
    intro k s' hI9
    refine hideQ fun Qa Ea hQa => ?_
    obtain ⟨h₃, tk₃, m₃, qs₃, f₃, pos₃, log₃, rfl, rfl, F₃, ⟨lH, ⟨ts, lS⟩, ⟨tp, lP⟩, lN⟩, hH₃, hA₃, hP₃, hpos₃, hf₃, hq₃, htg₃⟩ := hI9
    refine wpAny_isTrue_Compare1 (ld F₃.toFr lP (ld F₃.toFr lS (SiftDown.gt_int (wpAny_truthy_bool (hQa _ _ ?_)))))
    by_cases hgt : start < pos₃
    · have e1 : decide ((pos₃ : Int) > (start : Int)) = true := decide_eq_true (Int.ofNat_lt.mpr hgt)
      rw [e1, if_pos rfl]
      refine hideQ fun Qb Eb hQb => ?_
      refine wpAny_execs_cons (wpAny_Assign_Name (wpAny_BinOp (wpAny_BinOp (ld F₃.toFr lP (wpAny_Constant_int (SiftDown.sub_int (wpAny_Constant_int (wpAny_rshift1_int (by omega) (stx F₃ ?_)))))))))
      intro h₄ F₄ hs₄
      have ep : ((pos₃ : Int) - 1) / 2 = (((pos₃ - 1) / 2 : Nat) : Int) := half_c (Nat.lt_of_le_of_lt (Nat.zero_le _) hgt)
      rw [ep] at F₄
      dsimp only at F₄ hs₄ ⊢
      have hH₄ := pl_same hH₃ hs₄ mHL
      have hA₄ := pl_same hA₃ hs₄ mAL
      have hP₄ := hP₃.store F₃.ns hs₄
      have hpp : (pos₃ - 1) / 2 < n := half_lt hpos₃
      refine wpAny_execs_cons (wpAny_Assign_Name (Subscript_ (ld F₄.toFr lH (ld F₄.toFr rfl (row_item hH₄ hpp hn (stx F₄ ?_))))))
      intro h₅ F₅ hs₅
      dsimp only at F₅ hs₅ ⊢
      have hH₅ := pl_same hH₄ hs₅ mHL
      have hA₅ := pl_same hA₄ hs₅ mAL
      have hP₅ := hP₄.store F₄.ns hs₅
      refine wpAny_execs_cons (wpAny_If (wpAny_isTrue_Compare1 (ld F₅.toFr lN (ld F₅.toFr rfl (cmp_ofLt ?_)))))
      refine LT _ _ _ (hideAll h₅ [Aq]) _ qs₃ _ x (f₃ ((pos₃ - 1) / 2)) _ _ _ (by rw [depth_deeper]; omega) (by rw [units_deeper]; omega) F₅.toFr hKW (kw_mono _ _ hKW (has_sub F₅.has (by repeat' (first | exact fa0 | exact .head _ | refine fa1 ?_ ?_ | refine .tail _ ?_)))) (has_hide h₅ [Aq]) hA₅ (by omega) hP₅ hxN (hf₃ _ hpp) ?_
      intro h₆ tk₆ q HA₆ hA₆ hP₆
      have F₆ := F₅.back (sub := [Aq]) (by repeat' (first | exact fa0 | exact .head _ | refine fa1 ?_ ?_ | refine .tail _ ?_)) HA₆
      have hH₆ := pl_back hH₅ HA₆ (by simp [hne])
      refine wpAny_truthy_bool ?_
      by_cases hlt : v x < v (f₃ ((pos₃ - 1) / 2))
      · rw [decide_eq_true hlt, if_pos rfl]
        refine wpAny_execs_cons (wpAny_Assign_Subscript (ld F₆.toFr rfl (ld F₆.toFr lH (ld F₆.toFr lP (row_set hH₆ hpos₃ hn ?_)))))
        intro h₇ hH₇ hs₇
        have F₇ := F₆.turn (a := H) (by repeat (first | exact .head _ | refine .tail _ ?_)) hs₇
        dsimp only at F₇ hs₇ ⊢
        refine wpAny_execs_cons (wpAny_Assign_Name (ld F₇.toFr rfl (stx F₇ ?_)))
        intro h₈ F₈ hs₈
        dsimp only at F₈ hs₈ ⊢
        refine wpAny_execs_cons (wpAny_Continue ?_)
        dsimp only
        refine hQb _ _ ⟨(pos₃ - 1) / 2, by omega, h₈, _, _, qs₃ ++ [q], upd f₃ pos₃ (f₃ ((pos₃ - 1) / 2)), (pos₃ - 1) / 2, log₃ ++ [(x, f₃ ((pos₃ - 1) / 2))], rfl, rfl, F₈, ⟨lH, ⟨ts, lS⟩, ⟨_, rfl⟩, lN⟩,
          pl_same hH₇ hs₈ mHL, pl_same (pl_same hA₆ hs₇ (Ne.symm hne)) hs₈ mAL, ?_, hpp, ?_, ?_, ?_⟩
        · rw [intLog, List.map_append]
          exact (hP₆.turn hH₆.isList (rowV_head _ _ _) hs₇).store F₇.ns hs₈
        · intro i hi
          unfold upd
          split
          · exact hf₃ _ hpp
          · exact hf₃ _ hi
        · simp only [List.length_append, List.length_cons, List.length_nil]; omega
        · rw [← htg₃, sd_step hgt, if_pos hlt]
      · rw [decide_eq_false hlt, if_neg (by decide)]
        refine wpAny_execs_nil (wpAny_execs_cons (wpAny_Break ?_))
        dsimp only
        refine hQb _ _ ⟨h₆, _, _, qs₃ ++ [q], f₃, pos₃, log₃ ++ [(x, f₃ ((pos₃ - 1) / 2))], rfl, rfl, F₆, ⟨lH, ⟨ts, lS⟩, ⟨tp, lP⟩, lN⟩, hH₆, hA₆, ?_, hpos₃, ?_⟩
        · rw [intLog, List.map_append]; exact hP₆
        · rw [← htg₃, sd_step hgt, if_neg hlt]
    · have e1 : decide ((pos₃ : Int) > (start : Int)) = false := decide_eq_false fun q => hgt (Int.ofNat_lt.mp q)
      rw [e1, if_neg (by decide)]
      refine wpAny_execs_nil ⟨h₃, tk₃, m₃, qs₃, f₃, pos₃, log₃, rfl, rfl, F₃, ⟨lH, ⟨ts, lS⟩, ⟨tp, lP⟩, lN⟩, hH₃, hA₃, hP₃, hpos₃, ?_⟩
      rw [← htg₃, sd_stop hgt]
end Mine

end
section
open PySem PySem.W PyProof.Rows
set_option linter.unusedVariables false
namespace Mine
inductive FnAt (g : Heap) (a : Addr) (i : Nat) (name : Str) : Prop
  | mk (o : Obj) (pm cd doc : Value) (e : g.get? a = some o) (d : o.data = .func (Calls.docDef name (parAt i) (bodyAt i) (scoAt i) pm cd doc)) (c : g.CodeRec cd name)
theorem FnAt.keeps {g g' : Heap} {a : Addr} {i : Nat} {name : Str} (x : FnAt g a i name) (k : ∀ b o, g.get? b = some o → g'.get? b = some o) : FnAt g' a i name :=
  let ⟨o, pm, cd, doc, e, d, c⟩ := x; ⟨o, pm, cd, doc, k _ _ e, d, c.keeps k⟩
/-- what stands at the top -/
structure Sta (mg mb : Str → Option Value) (g : Heap) : Prop where
  G : g.Ns mainGlobals mg
  B : g.Ns builtinsNs mb
  lim : g.NoLimit
  b_len : mg "len" = none ∧ mb "len" = some (.builtin "len")
  b_range : mg "range" = none ∧ mb "range" = some (.type "range")
  b_reversed : mg "reversed" = none ∧ mb "reversed" = some (.type "reversed")
  b_zip : mg "zip" = none ∧ mb "zip" = some (.type "zip")
  b_sum : mg "sum" = none ∧ mb "sum" = some (.builtin "sum")
  b_sorted : mg "sorted" = none ∧ mb "sorted" = some (.builtin "sorted")
  b_min : mg "min" = none ∧ mb "min" = some (.builtin "min")
  g_push : mg "heappush" = some (.ref 21)
  g_heapify : mg "heapify" = some (.ref 28)
  g_sd : mg "_siftdown" = some (.ref 35)
  g_su : mg "_siftup" = some (.ref 42)
  g_parse : mg "parse257" = some (.ref 74)
  g_ctk : mg "cmp_to_key" = some (.ref 81)
  g_halves : mg "_law_halves" = some (.ref 88)
  g_keys : mg "_law_keys" = some (.ref 93)
  g_made : mg "_law_made" = some (.ref 98)
  g_held : mg "_law_held_below" = some (.ref 105)
  g_pushes : mg "_law_pushes" = some (.ref 112)
  f_push : FnAt g 21 1 "heappush"
  f_heapify : FnAt g 28 2 "heapify"
  f_sd : FnAt g 35 3 "_siftdown"
  f_su : FnAt g 42 4 "_siftup"
  f_parse : FnAt g 74 8 "parse257"
  f_halves : FnAt g 88 12 "_law_halves"
  f_held : FnAt g 105 15 "_law_held_below"
  f_pushes : FnAt g 112 16 "_law_pushes"
theorem Sta.keeps {mg mb : Str → Option Value} {g g' : Heap} (x : Sta mg mb g) (k : ∀ b o, g.get? b = some o → g'.get? b = some o) : Sta mg mb g' where
  G := x.G.keeps k
  B := x.B.keeps k
  lim := x.lim.keeps k
  b_len := x.b_len
  b_range := x.b_range
  b_reversed := x.b_reversed
  b_zip := x.b_zip
  b_sum := x.b_sum
  b_sorted := x.b_sorted
  b_min := x.b_min
  g_push := x.g_push
  g_heapify := x.g_heapify
  g_sd := x.g_sd
  g_su := x.g_su
  g_parse := x.g_parse
  g_ctk := x.g_ctk
  g_halves := x.g_halves
  g_keys := x.g_keys
  g_made := x.g_made
  g_held := x.g_held
  g_pushes := x.g_pushes
  f_push := x.f_push.keeps k
  f_heapify := x.f_heapify.keeps k
  f_sd := x.f_sd.keeps k
  f_su := x.f_su.keeps k
  f_parse := x.f_parse.keeps k
  f_halves := x.f_halves.keeps k
  f_held := x.f_held.keeps k
  f_pushes := x.f_pushes.keeps k

/-- the things one sift needs -/
structure Ctx1 (w : World) (KW : Heap → Prop) (ka : Nat → Addr) (v : Nat → Int) (N : Nat) (Aq H : Addr) : Prop where
  mono : ∀ g g', KW g → (∀ b o, g.get? b = some o → g'.get? b = some o) → KW g'
  lt : LtSpec w KW ka v N Aq
  ne : H ≠ Aq
/-- a row and what was asked -/
structure Row1 (ka : Nat → Addr) (v : Nat → Int) (N : Nat) (Aq H : Addr) (h : Heap) (n : Nat) (f : Nat → Nat) (qs : List Value) (log : Log) : Prop where
  row : PlainL h H (rowV ka n f).toArray
  ask : PlainL h Aq qs.toArray
  prs : Pairs (ka 0) h qs (intLog v log)
  low : ∀ i, i < n → f i < N
section
variable {ka : Nat → Addr} {v : Nat → Int} {N : Nat} {Aq H L : Addr} {h h' : Heap} {n : Nat} {f : Nat → Nat} {qs : List Value} {log : Log}
theorem Row1.store {m : Str → Option Value} {g : Heap} (R : Row1 ka v N Aq H h n f qs log) (F : Fx g L h m [H, Aq]) (hs : Heap.SameBut L h h') : Row1 ka v N Aq H h' n f qs log :=
  ⟨pl_same R.row hs (F.apart H (by repeat (first | exact .head _ | refine .tail _ ?_))), pl_same R.ask hs (F.apart Aq (by repeat (first | exact .head _ | refine .tail _ ?_))), R.prs.store F.ns hs, R.low⟩
theorem Row1.keep (R : Row1 ka v N Aq H h n f qs log) (k : ∀ b o, h.get? b = some o → h'.get? b = some o) : Row1 ka v N Aq H h' n f qs log :=
  ⟨pl_keep R.row (k _), pl_keep R.ask (k _), R.prs.mono fun a i t j u hl => isList_keep hl (k _), R.low⟩
theorem Row1.set {i x : Nat} (R : Row1 ka v N Aq H h n f qs log) (hl : PlainL h' H (rowV ka n (upd f i x)).toArray) (hs : Heap.SameBut H h h') (hne : H ≠ Aq) (hx : x < N) : Row1 ka v N Aq H h' n (upd f i x) qs log := by
  refine ⟨hl, pl_same R.ask hs (Ne.symm hne), R.prs.turn R.row.isList (rowV_head _ _ _) hs, fun j hj => ?_⟩
  unfold upd
  split
  · exact hx
  · exact R.low j hj
theorem Row1.len (R : Row1 ka v N Aq H h n f qs log) : qs.length = log.length := by
  have := R.prs.length
  simpa [intLog] using this
end
theorem siftdown1 {w : World} {KW : Heap → Prop} {ka : Nat → Addr} {v : Nat → Int} {N : Nat} {Aq H : Addr} {mg mb : Str → Option Value} (C : Ctx1 w KW ka v N Aq H)
    {A : Around} {E Q : Value → Shared → Prop} {g : Heap} {s : Shared} {n start pos : Nat} {f : Nat → Nat} {log : Log} {qs : List Value} {t1 t2 : Tok}
    (hd : A.depth + 12 < recursionLimit) (hu : A.units + 128 < cLine) (S : Sta mg mb g)
    (hKW : KW g) (HS : Has g s.heap [H, Aq]) (R : Row1 ka v N Aq H s.heap n f qs log) (hq : log.length + pos < 10000) (hpos : pos < n) (hn : n < 1000)
    (h : ∀ h' tk qs', Has g h' [H, Aq] → Row1 ka v N Aq H h' n (sd v (f pos) start pos f pos log).1 qs' (sd v (f pos) start pos f pos log).2 → Q .none { s with heap := h', toks := tk }) :
    wpAny (model prog w) A (call (.ref 35) [.ref H, .int start t1, .int pos t2]) Q E s := by
  obtain ⟨o, pm, cd, doc, e, d, c⟩ := S.f_sd
  have low : ∀ k (f : Nat → Nat) (x pos : Nat) (log : Log), (∀ i, i < n → f i < N) → x < N → pos < n → ∀ i, i < n → (sd v x start k f pos log).1 i < N := by
    have up : ∀ (f : Nat → Nat) (x pos : Nat), (∀ i, i < n → f i < N) → x < N → ∀ i, i < n → upd f pos x i < N := fun f x pos hf hx i hi => by
      unfold upd; split
      · exact hx
      · exact hf i hi
    intro k
    induction k with
    | zero => intro f x pos log hf hx _; exact up f x pos hf hx
    | succ k ih =>
      intro f x pos log hf hx hp
      unfold sd
      split
      · split
        · exact ih _ _ _ _ (up f _ pos hf (hf _ (half_lt hp))) hx (half_lt hp)
        · exact up f x pos hf hx
      · exact up f x pos hf hx
  exact siftdown_spec C.mono C.lt hd hu e d S.lim c hKW HS C.ne R.row R.ask R.prs (by rw [R.len]; exact hq) R.low hpos hn fun h' tk qs' a b c d => h h' tk qs' a ⟨b, c, d, low _ _ _ _ _ R.low (R.low _ hpos) hpos⟩

structure Loc2 (m : Str → Option Value) (H n start pos : Nat) (x : Value) : Prop where
  lH : m "heap" = some (.ref H)
  lE : ∃ t, m "endpos" = some (.int n t)
  lS : ∃ t, m "startpos" = some (.int start t)
  lP : ∃ t, m "pos" = some (.int pos t)
  lC : ∃ t, m "childpos" = some (.int (2 * pos + 1 : Nat) t)
  lN : m "newitem" = some x
inductive SuF (ka : Nat → Addr) (v : Nat → Int) (N : Nat) (Aq H : Addr) (g : Heap) (s : Shared) (L n pos x l0 : Nat) (tg : (Nat → Nat) × Nat × Log) (r : Result) (s' : Shared) : Prop
  | mk (h' : Heap) (tk : Nat) (m : Str → Option Value) (qs : List Value) (e0 : r = .ok .next) (e1 : s' = { s with heap := h', toks := tk }) (F : Fx g L h' m [H, Aq]) (l : Loc2 m H n pos tg.2.1 (.ref (ka x)))
      (R : Row1 ka v N Aq H h' n tg.1 qs tg.2.2) (hp : tg.2.1 < n) (hl : tg.2.2.length ≤ l0 + tg.2.1)
inductive SuI (ka : Nat → Addr) (v : Nat → Int) (N : Nat) (Aq H : Addr) (g : Heap) (s : Shared) (L n pos x l0 : Nat) (tg : (Nat → Nat) × Nat × Log) (k : Nat) (s' : Shared) : Prop
  | mk (h' : Heap) (tk : Nat) (m : Str → Option Value) (qs : List Value) (f : Nat → Nat) (p : Nat) (lg : Log) (fuel : Nat) (ek : n - p = k) (e1 : s' = { s with heap := h', toks := tk }) (F : Fx g L h' m [H, Aq])
      (l : Loc2 m H n pos p (.ref (ka x))) (R : Row1 ka v N Aq H h' n f qs lg) (hp : p < n) (hf : n ≤ fuel + p) (hl : lg.length ≤ l0 + p) (ht : down v n fuel f p lg = tg)

noncomputable def suLoop : List Stmt := match ((bodyAt 4)[4]? : Option Stmt) with | some (Stmt.While _ b _ _) => b | _ => []
set_option maxRecDepth 100000 in
theorem su_rest {w : World} {ka : Nat → Addr} {v : Nat → Int} {N : Nat} {Aq H : Addr} (hne : H ≠ Aq)
    {A : Around} {E : Value → Shared → Prop} {Q : Flow → Shared → Prop} {g : Heap} {s : Shared} {L a : Addr} {nm : Str} {cd : Value} {m : Str → Option Value} {n p c start : Nat} {f : Nat → Nat} {log : Log} {qs : List Value} {x : Value}
    (F : Fx g L s.heap m [H, Aq]) (R : Row1 ka v N Aq H s.heap n f qs log) (hp : p < n) (hc : c < n) (hn : n < 1000)
    (lH : m "heap" = some (.ref H)) (lE : ∃ t, m "endpos" = some (.int n t)) (lS : ∃ t, m "startpos" = some (.int start t)) (lP : ∃ t, m "pos" = some (.int p t)) (lC : ∃ t, m "childpos" = some (.int (c : Nat) t)) (lN : m "newitem" = some x)
    (h : ∀ h' tk m', Fx g L h' m' [H, Aq] → Loc2 m' H n start c x → Row1 ka v N Aq H h' n (upd f p (f c)) qs log → Q .next { s with heap := h', toks := tk }) :
    wpAny (model prog w) A (execs (suLoop.drop 2) (envOf nm (scoAt 4) L a cd)) Q E s := by
  obtain ⟨te, lE⟩ := lE
  obtain ⟨ts, lS⟩ := lS
  obtain ⟨tp, lP⟩ := lP
  obtain ⟨tc, lC⟩ := lC
  refine wpAny_execs_cons (wpAny_Assign_Subscript (Subscript_ (ld F.toFr lH (ld F.toFr lC (row_item R.row hc hn (ld F.toFr lH (ld F.toFr lP (row_set R.row hp hn ?_))))))))
  intro h₁ hH₁ hs₁
  have R₁ := R.set hH₁ hs₁ hne (R.low c hc)
  have F₁ := F.turn (a := H) (by repeat (first | exact .head _ | refine .tail _ ?_)) hs₁
  dsimp only
  refine wpAny_execs_cons (wpAny_Assign_Name (ld F₁.toFr lC (stx F₁ ?_)))
  intro h₂ F₂ hs₂
  have R₂ := R₁.store F₁ hs₂
  dsimp only at F₂ R₂ ⊢
  refine wpAny_execs_cons (wpAny_Assign_Name (wpAny_BinOp (wpAny_BinOp (wpAny_Constant_int (ld F₂.toFr rfl (mul_int (wpAny_Constant_int (add_int (stx F₂ ?_)))))))))
  intro h₃ F₃ hs₃
  have R₃ := R₂.store F₂ hs₃
  dsimp only at F₃ R₃ ⊢
  exact wpAny_execs_nil (h h₃ _ _ F₃ ⟨lH, ⟨te, lE⟩, ⟨ts, lS⟩, ⟨_, rfl⟩, ⟨_, rfl⟩, lN⟩ R₃)

set_option maxRecDepth 100000 in
theorem siftup1 {w : World} {KW : Heap → Prop} {ka : Nat → Addr} {v : Nat → Int} {N : Nat} {Aq H : Addr} {mg mb : Str → Option Value} (C : Ctx1 w KW ka v N Aq H)
    {A : Around} {E Q : Value → Shared → Prop} {g : Heap} {s : Shared} {n pos : Nat} {f : Nat → Nat} {log : Log} {qs : List Value} {t2 : Tok}
    (hd : A.depth + 14 < recursionLimit) (hu : A.units + 140 < cLine) (S : Sta mg mb g)
    (hKW : KW g) (HS : Has g s.heap [H, Aq]) (R : Row1 ka v N Aq H s.heap n f qs log) (hq : log.length + 2 * n < 10000) (hpos : pos < n) (hn : n < 1000)
    (h : ∀ h' tk qs', Has g h' [H, Aq] → Row1 ka v N Aq H h' n (su v n f pos log).1 qs' (su v n f pos log).2 → Q .none { s with heap := h', toks := tk }) :
    wpAny (model prog w) A (call (.ref 42) [.ref H, .int pos t2]) Q E s := by
  refine wpAny_call ?_
  have lH : ∀ a ∈ [H, Aq], a < s.heap.objs.size := by
    intro a ha
    simp only [List.mem_cons, List.not_mem_nil, or_false] at ha
    rcases ha with rfl | rfl
    · exact R.row.lt
    · exact R.ask.lt
  obtain ⟨o, pm, cd, doc, eo, ed, ec⟩ := S.f_su
  refine enter (by omega) HS lH eo ed S.lim ec (binds := [("heap", .ref H), ("pos", .int pos t2)]) (by rfl) (locs rfl) ?_
  intro L h₁ tk F hk hL
  have R₁ := R.keep hk
  refine wpAny_execs_cons (wpAny_Assign_Name (Call_ (ld_builtin_at F.toFr S.G S.b_len.1 S.B S.b_len.2 (PyProof.Rows.callWith_builtin1 (args_cons (ld F.toFr rfl (args_nil (Calls.call_len_list R₁.row.isList (by simp [rowV_len]; omega) (stx F ?_)))))))))
  intro h₂ F₂ hs₂
  have R₂ := R₁.store F hs₂
  dsimp only at F₂ R₂ ⊢
  refine wpAny_execs_cons (wpAny_Assign_Name (ld F₂.toFr rfl (stx F₂ ?_)))
  intro h₃ F₃ hs₃
  have R₃ := R₂.store F₂ hs₃
  dsimp only at F₃ R₃ ⊢
  refine wpAny_execs_cons (wpAny_Assign_Name (Subscript_ (ld F₃.toFr rfl (ld F₃.toFr rfl (row_item R₃.row hpos hn (stx F₃ ?_))))))
  intro h₄ F₄ hs₄
  have R₄ := R₃.store F₃ hs₄
  dsimp only at F₄ R₄ ⊢
  refine wpAny_execs_cons (wpAny_Assign_Name (wpAny_BinOp (wpAny_BinOp (wpAny_Constant_int (ld F₄.toFr rfl (mul_int (wpAny_Constant_int (add_int (stx F₄ ?_)))))))))
  intro h₅ F₅ hs₅
  have R₅ := R₄.store F₄ hs₅
  dsimp only at F₅ R₅ ⊢
  generalize hx : f pos = x at F₄ F₅
  have hxN : x < N := hx ▸ R.low pos hpos
  generalize htg : down v n n f pos log = target
  refine wpAny_execs_cons (wpAny_While (codeAny_mono (R := SuF ka v N Aq H g s L n pos x log.length target)
    (codeAny_whileLoop (SuI ka v N Aq H g s L n pos x log.length target)
      ?turn (n - pos) ?init) ?fin))
  case init =>
    exact ⟨h₅, _, _, qs, f, pos, log, n, rfl, rfl, F₅, ⟨rfl, ⟨_, by simp [rowV_len]; rfl⟩, ⟨_, rfl⟩, ⟨_, rfl⟩, ⟨_, rfl⟩, rfl⟩, R₅, hpos, by omega, by omega, htg⟩
  case fin =>
    rintro r s' ⟨h₆, tk₆, m₆, qs₆, rfl, rfl, F₆, ⟨lH, ⟨te, lE⟩, ⟨ts, lS⟩, ⟨tp, lP⟩, ⟨tc, lC⟩, lN⟩, R₆, hp₆, hl₆⟩
    dsimp only
    refine wpAny_execs_cons (wpAny_Assign_Subscript (ld F₆.toFr lN (ld F₆.toFr lH (ld F₆.toFr lP (row_set R₆.row hp₆ hn ?_)))))
    intro h₇ hH₇ hs₇
    have R₇ := R₆.set hH₇ hs₇ C.ne hxN
    have F₇ := F₆.turn (a := H) (by repeat (first | exact .head _ | refine .tail _ ?_)) hs₇
    dsimp only
    obtain ⟨o', pm', cd', doc', e', d', c'⟩ := S.f_sd
    refine wpAny_execs_cons (wpAny_Expr (Call_ (ld_global_at F₇.toFr S.G S.g_sd (callWith_def d' (args_cons (ld F₇.toFr lH (args_cons (ld F₇.toFr lS (args_cons (ld F₇.toFr lP (args_nil ⟨F₇.keep _ _ e', ?_⟩)))))))))))
    refine siftdown1 C (g := hideAll h₇ [H, Aq]) (by rw [depth_deeper]; omega) (by rw [units_deeper]; omega) (S.keeps (has_sub F₇.has (by repeat' (first | exact fa0 | exact .head _ | refine fa1 ?_ ?_ | refine .tail _ ?_)))) (C.mono _ _ hKW (has_sub F₇.has (by repeat' (first | exact fa0 | exact .head _ | refine fa1 ?_ ?_ | refine .tail _ ?_)))) (has_hide h₇ [H, Aq]) R₇ ?_ hp₆ hn ?_
    · omega
    · intro h₈ tk₈ qs₈ H₈ R₈
      dsimp only
      refine wpAny_execs_nil ?_
      have F₈ := F₇.back (sub := [H, Aq]) (by repeat' (first | exact fa0 | exact .head _ | refine fa1 ?_ ?_ | refine .tail _ ?_)) H₈
      refine h h₈ tk₈ qs₈ F₈.has ?_
      rw [upd_same] at R₈
      unfold su
      rw [htg, hx]
      exact R₈
  case turn =>
    intro k s' hI9
    refine hideQ fun Qa Ea hQa => ?_
    obtain ⟨h₆, tk₆, m₆, qs₆, f₆, p, log₆, fuel, rfl, rfl, F₆, ⟨lH, ⟨te, lE⟩, ⟨ts, lS⟩, ⟨tp, lP⟩, ⟨tc, lC⟩, lN⟩, R₆, hp₆, hfu, hlg, htg₆⟩ := hI9
    refine wpAny_isTrue_Compare1 (ld F₆.toFr lC (ld F₆.toFr lE (lt_int (wpAny_truthy_bool (hQa _ _ ?_)))))
    by_cases hc : 2 * p + 1 < n
    · have e1 : decide (((2 * p + 1 : Nat) : Int) < (n : Int)) = true := decide_eq_true (Int.ofNat_lt.mpr hc)
      rw [e1, if_pos rfl]
      refine hideQ fun Qb Eb hQb => ?_
      cases fuel with
      | zero => omega
      | succ fuel =>
      have hdn : down v n fuel (upd f₆ p (f₆ (child v n f₆ (2 * p + 1)))) (child v n f₆ (2 * p + 1)) (childLog n f₆ (2 * p + 1) log₆) = target := by
        rw [← htg₆]; conv => rhs; unfold down
        rw [if_pos hc]
      refine wpAny_execs_cons (wpAny_Assign_Name (wpAny_BinOp (ld F₆.toFr lC (wpAny_Constant_int (add_int (stx F₆ ?_))))))
      intro h₇ F₇ hs₇
      have R₇ := R₆.store F₆ hs₇
      dsimp only at F₇ R₇ ⊢
      have hcn := child_lt (v := v) (f := f₆) hc
      refine wpAny_execs_cons (wpAny_If (wpAny_isTrue_BoolOp (wpAny_allTrue_And_cons (wpAny_isTrue_Compare1 (ld F₇.toFr rfl (ld F₇.toFr lE (lt_int (wpAny_truthy_bool ?_))))))))
      by_cases hr : 2 * p + 1 + 1 < n
      · have e2 : decide (((2 * p + 1 : Nat) : Int) + 1 < (n : Int)) = true := decide_eq_true (Int.ofNat_lt.mpr hr)
        rw [e2, if_pos rfl]
        refine wpAny_allTrue_And_cons (wpAny_isTrue_Not (wpAny_isTrue_Compare1 (Subscript_ (ld F₇.toFr lH (ld F₇.toFr lC (row_item R₇.row hc hn
          (Subscript_ (ld F₇.toFr lH (ld F₇.toFr rfl (row_item (c := 2 * p + 1 + 1) R₇.row hr hn (cmp_ofLt ?_)))))))))))
        refine C.lt _ _ _ (hideAll h₇ [Aq]) _ qs₆ _ (f₆ (2 * p + 1)) (f₆ (2 * p + 1 + 1)) _ _ _ (by rw [depth_deeper]; omega) (by rw [units_deeper]; omega) F₇.toFr hKW (C.mono _ _ hKW (has_sub F₇.has (by repeat' (first | exact fa0 | exact .head _ | refine fa1 ?_ ?_ | refine .tail _ ?_)))) (has_hide h₇ [Aq]) R₇.ask (by rw [R₇.len]; omega) R₇.prs (R₇.low _ hc) (R₇.low _ hr) ?_
        intro h₈ tk₈ q HA₈ hA₈ hP₈
        have F₈ := F₇.back (sub := [Aq]) (by repeat' (first | exact fa0 | exact .head _ | refine fa1 ?_ ?_ | refine .tail _ ?_)) HA₈
        have hH₈ := pl_back R₇.row HA₈ (by simp [C.ne])
        have hcl : childLog n f₆ (2 * p + 1) log₆ = log₆ ++ [(f₆ (2 * p + 1), f₆ (2 * p + 1 + 1))] := by unfold childLog; rw [if_pos hr]
        have R₈ : Row1 ka v N Aq H h₈ n f₆ (qs₆ ++ [q]) (childLog n f₆ (2 * p + 1) log₆) := ⟨hH₈, hA₈, by rw [hcl, intLog, List.map_append]; exact hP₈, R₇.low⟩
        have hll : (childLog n f₆ (2 * p + 1) log₆).length = log₆.length + 1 := by rw [hcl]; simp
        refine wpAny_truthy_bool ?_
        by_cases hlt : v (f₆ (2 * p + 1)) < v (f₆ (2 * p + 1 + 1))
        · have hch : child v n f₆ (2 * p + 1) = 2 * p + 1 := by unfold child; rw [if_pos hr, if_pos hlt]
          rw [decide_eq_true hlt]
          show (if (!true) = true then _ else _)
          rw [if_neg (by decide), if_neg (by decide)]
          refine wpAny_execs_nil ?_
          rw [hch] at hdn hcn
          exact su_rest C.ne F₈ R₈ hp₆ hcn hn lH ⟨te, lE⟩ ⟨ts, lS⟩ ⟨tp, lP⟩ ⟨tc, lC⟩ lN fun h' tk m' F' l' R' => hQb _ _ ⟨n - (2 * p + 1), by omega, .mk h' tk m' _ _ (2 * p + 1) _ fuel rfl rfl F' l' R' hcn (by omega) (by omega) hdn⟩
        · have hch : child v n f₆ (2 * p + 1) = 2 * p + 1 + 1 := by unfold child; rw [if_pos hr, if_neg hlt]
          rw [decide_eq_false hlt]
          show (if (!false) = true then _ else _)
          rw [if_pos (show (!false) = true from rfl)]
          refine wpAny_allTrue_And_nil ?_
          rw [if_pos rfl]
          refine wpAny_execs_cons (wpAny_Assign_Name (ld F₈.toFr rfl (stx F₈ ?_)))
          intro h₉ F₉ hs₉
          have R₉ := R₈.store F₈ hs₉
          dsimp only at F₉ R₉ ⊢
          refine wpAny_execs_nil ?_
          rw [hch] at hdn hcn
          exact su_rest C.ne F₉ R₉ hp₆ hcn hn lH ⟨te, lE⟩ ⟨ts, lS⟩ ⟨tp, lP⟩ ⟨_, rfl⟩ lN fun h' tk m' F' l' R' => hQb _ _ ⟨n - (2 * p + 1 + 1), by omega, .mk h' tk m' _ _ (2 * p + 1 + 1) _ fuel rfl rfl F' l' R' hcn (by omega) (by omega) hdn⟩
      · have e2 : decide (((2 * p + 1 : Nat) : Int) + 1 < (n : Int)) = false := decide_eq_false fun q => hr (Int.ofNat_lt.mp q)
        rw [e2, if_neg (by decide), if_neg (by decide)]
        have hch : child v n f₆ (2 * p + 1) = 2 * p + 1 := by unfold child; rw [if_neg hr]
        have hcl : childLog n f₆ (2 * p + 1) log₆ = log₆ := by unfold childLog; rw [if_neg hr]
        refine wpAny_execs_nil ?_
        rw [hch, hcl] at hdn
        exact su_rest C.ne F₇ R₇ hp₆ hc hn lH ⟨te, lE⟩ ⟨ts, lS⟩ ⟨tp, lP⟩ ⟨tc, lC⟩ lN fun h' tk m' F' l' R' => hQb _ _ ⟨n - (2 * p + 1), by omega, .mk h' tk m' _ _ (2 * p + 1) _ fuel rfl rfl F' l' R' hc (by omega) (by omega) hdn⟩
    · have e1 : decide (((2 * p + 1 : Nat) : Int) < (n : Int)) = false := decide_eq_false fun q => hc (Int.ofNat_lt.mp q)
      rw [e1, if_neg (by decide)]
      have : target = (f₆, p, log₆) := by
        rw [← htg₆]
        cases fuel with
        | zero => rfl
        | succ fuel => unfold down; rw [if_neg hc]
      subst this
      exact wpAny_execs_nil ⟨h₆, tk₆, m₆, qs₆, rfl, rfl, F₆, ⟨lH, ⟨te, lE⟩, ⟨ts, lS⟩, ⟨tp, lP⟩, ⟨tc, lC⟩, lN⟩, R₆, hp₆, hlg⟩
end Mine

end
section
open PySem PySem.W PyProof.Rows
set_option linter.unusedVariables false
namespace Mine
/-! reversed(range(k)) -/
namespace RR
theorem slot_rev : Slot "range" "__reversed__" "range.__reversed__" :=
  .of (owner := "range") (n := "__reversed__") (by rw [typeLookup_type, builtinLookup_eq_fast]; kernel_rfl) (by decide +kernel) (by decide +kernel) (by decide +kernel)
    (by first | exact .inl (by decide +kernel) | exact .inr (by decide +kernel)) (by rw [isSubtype_type]; kernel_rfl)
theorem entry_rev : entryFor table "range.__reversed__" = some Builtin.«range.__reversed__» := entryFor_of_tree (by kernel_rfl)
theorem args_rev (a : Value) : argsOk "range.__reversed__" ⟨[a], []⟩ := by unfold argsOk; kernel_rfl
theorem slot_it : Slot "range_iterator" "__iter__" "range_iterator.__iter__" :=
  .of (owner := "range_iterator") (n := "__iter__") (by rw [typeLookup_type, builtinLookup_eq_fast]; kernel_rfl) (by decide +kernel) (by decide +kernel) (by decide +kernel)
    (by first | exact .inl (by decide +kernel) | exact .inr (by decide +kernel)) (by rw [isSubtype_type]; kernel_rfl)
theorem entry_it : entryFor table "range_iterator.__iter__" = some Builtin.«dict_keyiterator.__iter__» :=
  entryFor_alias (id' := "dict_keyiterator.__iter__") (by kernel_rfl) (by first | rfl | decide +kernel | (unfold String.splitOn; simp +decide [String.splitOnAux])) (by decide +kernel) (by kernel_rfl)
theorem args_it (a : Value) : argsOk "range_iterator.__iter__" ⟨[a], []⟩ := by unfold argsOk; kernel_rfl
theorem sub_ri : isSubtype (.type "range_iterator") (.type "reversed") = pure false := by rw [isSubtype_type]; kernel_rfl
end RR
section
variable {w : World} {A : Around} {E : Value → Shared → Prop} {s : Shared}
theorem call_rev {r : Addr} {k : Int} {t u v : Tok} {Q : Value → Shared → Prop} (hr : IsRange s.heap r 0 k 1 t u v) (h0 : 0 ≤ k) (h1 : k < 1000)
    (h : Q (.ref s.heap.objs.size) { s with heap := s.heap.push { cls := .type "range_iterator", data := .fields #[rawInt (k - 1), rawInt k, rawInt (-1)] } }) : wpAny (model prog w) A (call (.builtin "range.__reversed__") [.ref r]) Q E s := by
  refine wpAny_call_entry RR.slot_rev ⟨_, hr, rfl⟩ RR.entry_rev ?_ (RR.args_rev _)
  unfold Builtin.«range.__reversed__»
  refine wpAny_bind (wpAny_of_eq (a := Value.ref r) rfl ?_)
  unfold Builtin.Range.rangeFields
  refine wpAny_bind ?_
  refine wpAny_bind (wpAny_field hr rfl rfl (wpAny_bind (wpAny_of_eq (a := some (0 : Int)) rfl ?_)))
  refine wpAny_bind (wpAny_field hr rfl rfl (wpAny_bind (wpAny_of_eq (a := some k) rfl ?_)))
  refine wpAny_bind (wpAny_field hr rfl rfl (wpAny_bind (wpAny_of_eq (a := some (1 : Int)) rfl ?_)))
  refine wpAny_pure ?_
  dsimp only
  have hsz : Builtin.Range.rangeSize 0 k 1 = k := by rw [rangeSize_one]; split <;> omega
  rw [hsz]
  have hs : (Builtin.Range.rangeFitsLong 0 && Builtin.Range.rangeFitsLong k && Builtin.Range.rangeFitsLong 1 && Builtin.Range.rangeFitsLong (-1) && Builtin.Range.rangeFitsLong (0 - 1) && Builtin.Range.rangeFitsLong k) = true := by
    simp only [Builtin.Range.rangeFitsLong, Bool.and_eq_true, decide_eq_true_eq]; omega
  rw [hs]
  have hk : (0 : Int) + (k - 1) * 1 = k - 1 := by omega
  rw [hk]
  refine wpAny_bind (wpAny_newObj_type (wpAny_pure ⟨_, rfl, h⟩))
theorem code_rev_new {r : Addr} {k : Int} {t u v : Tok} {Q₁ : Value → Shared → Prop} (hr : IsRange s.heap r 0 k 1 t u v) (h0 : 0 ≤ k) (h1 : k < 1000)
    (h : Q₁ (.ref s.heap.objs.size) { s with heap := s.heap.push { cls := .type "range_iterator", data := .fields #[rawInt (k - 1), rawInt k, rawInt (-1)] } }) :
    codeAny (model prog w) A (.call (.builtin "reversed.__new__") ⟨[.type "reversed", .ref r], []⟩) (wants Q₁ E) s := by
  refine codeAny_of_tree ?_
  show wpAny _ A.in1 (do checkBuiltinCall "reversed.__new__" ⟨[.type "reversed", .ref r], []⟩; again (.builtin "reversed.__new__" ⟨[.type "reversed", .ref r], []⟩)) _ _ s
  refine wpAny_bind (wpAny_of_eq (F.newCall_reversed_1 _) (wpAny_pure ⟨plainId_quiet F.plain_reversed_new _, codeAny_builtin F.entry_reversed_new ?_⟩))
  rw [Around.under_plainId F.plain_reversed_new _]
  unfold Builtin.«reversed.__new__»
  refine wpAny_bind (wpAny_of_eq (newClass_reversed _) ?_)
  try dsimp only
  refine wpAny_bind (wpAny_of_eq (a := ()) (by first | rfl | kernel_rfl) ?_)
  refine wpAny_bind (wpAny_of_eq (a := ()) (by first | rfl | kernel_rfl) ?_)
  try dsimp only
  refine wpAny_bind (wpAny_specialOf ⟨_, hr, rfl⟩ RR.slot_rev.lookup ?_)
  try dsimp only
  refine wpAny_bind (wpAny_of_eq (RR.slot_rev.bind _) ?_)
  try dsimp only
  first
  | rw [if_neg (show ¬ ((Value.builtin "range.__reversed__" == Value.none) = true) from Bool.false_ne_true)]
  | (show wpAny _ _ (if (Value.builtin "range.__reversed__" == Value.none) = true then _ else _) _ _ _; rw [if_neg (show ¬ ((Value.builtin "range.__reversed__" == Value.none) = true) from Bool.false_ne_true)])
  refine wpAny_bind (wpAny_rule ?_)
  refine wpAny_bind (m := runValue (.call (.builtin "range.__reversed__") ⟨[.ref r], []⟩)) (show wpAny _ _ (call (.builtin "range.__reversed__") [.ref r]) _ _ _ from call_rev hr h0 h1 ?_)
  first
  | exact wpAny_pure h
  | exact wpAny_bind (wpAny_pure (wpAny_pure h))
theorem call_reversed_range {r : Addr} {k : Int} {t u v : Tok} {Q : Value → Shared → Prop} (hr : IsRange s.heap r 0 k 1 t u v) (h0 : 0 ≤ k) (h1 : k < 1000)
    (h : Q (.ref s.heap.objs.size) { s with heap := s.heap.push { cls := .type "range_iterator", data := .fields #[rawInt (k - 1), rawInt k, rawInt (-1)] } }) : wpAny (model prog w) A (call (.type "reversed") [.ref r]) Q E s := by
  refine callType_other (U := "range_iterator") (Q₁ := fun obj s₁ => obj = .ref s.heap.objs.size ∧ s₁ = { s with heap := s.heap.push { cls := .type "range_iterator", data := .fields #[rawInt (k - 1), rawInt k, rawInt (-1)] } })
    (by decide +kernel) F.create_reversed ⟨_, _, F.mro_reversed⟩ F.made_reversed RR.sub_ri (F.typeCall_reversed_1 _) (code_rev_new hr h0 h1 ⟨rfl, rfl⟩) ?_
  rintro obj s₁ ⟨rfl, rfl⟩
  exact ⟨⟨_, Heap.get?_push_size _ rfl, rfl⟩, h⟩
theorem pyIter_ri {it : Addr} {x l st : Int} {Q : Value → Shared → Prop} (hit : IsRangeIter s.heap it x l st) (h : Q (.ref it) s) : wpAny (model prog w) A (pyIter (.ref it)) Q E s := by
  have hT : s.TypeIs (.ref it) "range_iterator" := ⟨_, hit, rfl⟩
  refine wpAny_pyIter_slot hT RR.slot_it (wpAny_call_entry RR.slot_it hT RR.entry_it ?_ (RR.args_it _))
  show wpAny _ _ (ret (.ref it)) _ _ s
  exact wpAny_pure ⟨_, rfl, "range_iterator", _, hT, F.slot_range_iterator_next.lookup, h⟩
end
end Mine

end
section
open PySem PySem.W PyProof.Rows
set_option linter.unusedVariables false
namespace Mine
theorem Fx.turn' {g h h' : Heap} {L a : Addr} {m : Str → Option Value} {muts : List Addr} (F : Fx g L h m muts) (ha : g.get? a = none) (hl : a ≠ L) (hs : Heap.ExtBut a h h') : Fx g L h' m muts := by
  obtain ⟨oL, es, ep, hL, r⟩ := F.ns
  exact ⟨⟨⟨oL, es, ep, hs _ _ (Ne.symm hl) hL, r⟩, fun b o e => hs b o (fun q => by rw [q, ha] at e; cases e) (F.keep b o e), F.above⟩, F.free, F.apart⟩
theorem Row1.turn' {ka : Nat → Addr} {v : Nat → Int} {N : Nat} {Aq H a : Addr} {h h' : Heap} {n : Nat} {f : Nat → Nat} {qs : List Value} {log : Log} {o : Obj} (R : Row1 ka v N Aq H h n f qs log) (ho : h.get? a = some o) (hc : o.cls ≠ .type "list") (hs : Heap.ExtBut a h h') : Row1 ka v N Aq H h' n f qs log := by
  have ne : ∀ {b : Addr} {its : Array Value}, h.IsList b its → b ≠ a := fun {b its} x q => by
    obtain ⟨o', e1, e2, _⟩ := x
    rw [q, ho] at e1; cases e1; exact hc e2
  have up : ∀ {b : Addr} {its : Array Value}, h.IsList b its → h'.IsList b its := fun {b its} x => isList_keep x fun o' e => hs _ _ (ne x) e
  exact ⟨pl_keep R.row fun o' e => hs _ _ (ne R.row.isList) e, pl_keep R.ask fun o' e => hs _ _ (ne R.ask.isList) e, R.prs.mono fun b i t j u hl => up hl, R.low⟩
theorem fresh_none {g h : Heap} {muts : List Addr} (H : Has g h muts) : g.get? h.objs.size = none := by
  cases q : g.get? h.objs.size with
  | none => rfl
  | some o => exact absurd (Heap.lt_size (H.keep _ _ q)) (Nat.lt_irrefl _)

theorem mc_le (n : Nat) : ∀ k i, mc n k i ≤ 2 * k
  | 0, _ => by simp [mc]
  | k + 1, i => by
    have h1 := mc_le n k (2 * i + 1)
    have h2 := mc_le n k (2 * i + 2)
    unfold mc
    split
    · omega
    · split <;> omega
inductive HyF (ka : Nat → Addr) (v : Nat → Int) (N : Nat) (Aq H : Addr) (g : Heap) (s : Shared) (n : Nat) (tg : (Nat → Nat) × Log) (r : Result) (s' : Shared) : Prop
  | mk (h' : Heap) (tk : Nat) (qs : List Value) (e0 : r = .ok .next) (e1 : s' = { s with heap := h', toks := tk }) (x : Has g h' [H, Aq]) (R : Row1 ka v N Aq H h' n tg.1 qs tg.2)
inductive HyI (ka : Nat → Addr) (v : Nat → Int) (N : Nat) (Aq H : Addr) (g : Heap) (s : Shared) (L it n : Nat) (tg : (Nat → Nat) × Log) (k : Nat) (s' : Shared) : Prop
  | mk (h' : Heap) (tk : Nat) (m : Str → Option Value) (qs : List Value) (f : Nat → Nat) (lg : Log) (e1 : s' = { s with heap := h', toks := tk }) (F : Fx g L h' m [H, Aq]) (lx : m "x" = some (.ref H)) (R : Row1 ka v N Aq H h' n f qs lg)
      (i : IsRangeIter h' it ((k : Int) - 1) k (-1)) (hk : k ≤ n / 2) (hl : lg.length + 2 * n * k + 2 * n < 10000) (ht : hy v n k f lg = tg)
set_option maxRecDepth 100000 in
theorem heapify1 {w : World} {KW : Heap → Prop} {ka : Nat → Addr} {v : Nat → Int} {N : Nat} {Aq H : Addr} {mg mb : Str → Option Value} (C : Ctx1 w KW ka v N Aq H)
    {A : Around} {E Q : Value → Shared → Prop} {g : Heap} {s : Shared} {n : Nat} {f : Nat → Nat} {log : Log} {qs : List Value}
    (hh : A.handled = none) (hd : A.depth + 16 < recursionLimit) (hu : A.units + 160 < cLine) (S : Sta mg mb g)
    (hKW : KW g) (HS : Has g s.heap [H, Aq]) (R : Row1 ka v N Aq H s.heap n f qs log) (hq : log.length + 2 * n * n + 2 * n < 10000) (hn : n < 60)
    (h : ∀ h' tk qs', Has g h' [H, Aq] → Row1 ka v N Aq H h' n (hy v n (n / 2) f log).1 qs' (hy v n (n / 2) f log).2 → Q .none { s with heap := h', toks := tk }) :
    wpAny (model prog w) A (call (.ref 28) [.ref H]) Q E s := by
  refine wpAny_call ?_
  have lH : ∀ a ∈ [H, Aq], a < s.heap.objs.size := by
    intro a ha
    simp only [List.mem_cons, List.not_mem_nil, or_false] at ha
    rcases ha with rfl | rfl
    · exact R.row.lt
    · exact R.ask.lt
  obtain ⟨o, pm, cd, doc, eo, ed, ec⟩ := S.f_heapify
  refine enter (by omega) HS lH eo ed S.lim ec (binds := [("x", .ref H)]) (by rfl) (locs rfl) ?_
  intro L h₁ tk F hk hL
  have R₁ := R.keep hk
  refine wpAny_execs_cons (wpAny_Assign_Name (Call_ (ld_builtin_at F.toFr S.G S.b_len.1 S.B S.b_len.2 (PyProof.Rows.callWith_builtin1 (args_cons (ld F.toFr rfl (args_nil (Calls.call_len_list R₁.row.isList (by simp [rowV_len]; omega) (stx F ?_)))))))))
  intro h₂ F₂ hs₂
  have R₂ := R₁.store F hs₂
  dsimp only at F₂ R₂ ⊢
  have hlen : ((rowV ka n f).toArray.size : Int) = n := by simp [rowV_len]
  refine wpAny_execs_cons (wpAny_For (Call_ (ld_builtin_at F₂.toFr S.G S.b_reversed.1 S.B S.b_reversed.2 (PyProof.Rows.callWith_type1 (args_cons (Call_ (ld_builtin_at F₂.toFr S.G S.b_range.1 S.B S.b_range.2
    (PyProof.Rows.callWith_type1 (args_cons (wpAny_BinOp (ld F₂.toFr rfl (wpAny_Constant_int (floordiv_int (by decide) ?_)))))))))))))
  rw [hlen]
  have hfd : (n : Int).fdiv 2 = ((n / 2 : Nat) : Int) := by rw [Int.fdiv_eq_ediv_of_nonneg _ (by decide)]; omega
  rw [hfd]
  refine args_nil (call_range_1 (args_nil (call_reversed_range (Heap.get?_push_size _ rfl) (by omega) (by omega) ?_)))
  dsimp only
  refine pyIter_ri (x := ((n / 2 : Nat) : Int) - 1) (l := ((n / 2 : Nat) : Int)) (st := -1) (Heap.get?_push_size _ rfl) ?_
  generalize hr1 : h₂.push _ = h₃
  generalize hr2 : h₃.push _ = h₄
  have F₃ : Fx g L h₃ _ [H, Aq] := hr1 ▸ F₂.push _
  have F₄ : Fx g L h₄ _ [H, Aq] := hr2 ▸ F₃.push _
  have R₄ : Row1 ka v N Aq H h₄ n f qs log := hr2 ▸ (hr1 ▸ R₂.keep fun b o e => Heap.get?_push_of_some _ e : Row1 ka v N Aq H h₃ n f qs log).keep fun b o e => Heap.get?_push_of_some _ e
  have hit : IsRangeIter h₄ h₃.objs.size (((n / 2 : Nat) : Int) - 1) ((n / 2 : Nat) : Int) (-1) := hr2 ▸ Heap.get?_push_size _ rfl
  have hgit : g.get? h₃.objs.size = none := fresh_none F₃.has
  have hLit : h₃.objs.size ≠ L := Nat.ne_of_gt F₃.ns.lt
  generalize h₃.objs.size = it at hit hgit hLit
  clear hr1 hr2
  generalize htg : hy v n (n / 2) f log = target at h
  refine codeAny_mono (R := HyF ka v N Aq H g s n target)
    (codeAny_forLoop (HyI ka v N Aq H g s L it n target) ?turn (n / 2) ?init) ?fin
  case init =>
    refine ⟨h₄, _, _, qs, f, log, rfl, F₄, rfl, R₄, hit, Nat.le_refl _, ?_, htg⟩
    have : 2 * n * (n / 2) ≤ 2 * n * n := Nat.mul_le_mul_left _ (by omega)
    omega
  case fin =>
    rintro r s' ⟨h', tk', qs', rfl, rfl, H', R'⟩
    exact wpAny_execs_nil (h h' tk' qs' H' R')
  case turn =>
    intro k s' hI9
    refine hideQ fun Qa Ea hQa => ?_
    obtain ⟨h₅, tk₅, m₅, qs₅, f₅, lg₅, rfl, F₅, lx, R₅, it₅, hk₅, hl₅, htg₅⟩ := hI9
    cases k with
    | zero =>
      refine wpAny_pyNext_range_end (by exact hh) it₅ (by omega) ?_
      intro h₆ hx₆
      refine hQa _ _ ?_
      dsimp only
      refine wpAny_execs_nil ⟨h₆, _, qs₅, rfl, rfl, (F₅.turn' hgit hLit hx₆).has, ?_⟩
      have : target = (f₅, lg₅) := by rw [← htg₅]; rfl
      subst this
      exact R₅.turn' it₅ (show Value.type "range_iterator" ≠ Value.type "list" by decide) hx₆
    | succ k =>
      refine wpAny_pyNext_range_item it₅ (by omega) ?_
      intro h₆ it₆ hs₆
      refine hQa _ _ ?_
      have F₆ := F₅.turn' hgit hLit hs₆.extBut
      have R₆ := R₅.turn' it₅ (show Value.type "range_iterator" ≠ Value.type "list" by decide) hs₆.extBut
      rw [show ((k + 1 : Nat) : Int) - 1 + -1 = (k : Int) - 1 by omega, show ((k + 1 : Nat) : Int) - 1 = (k : Int) by omega] at it₆
      rw [show ((k + 1 : Nat) : Int) - 1 = (k : Int) by omega]
      dsimp only
      refine wpAny_assign_Name (stx F₆ ?_)
      intro h₇ F₇ hs₇
      have R₇ := R₆.store F₆ hs₇
      have it₇ : IsRangeIter h₇ it ((k : Int) - 1) k (-1) := (hs₇.2 it hLit).trans it₆
      dsimp only at F₇ R₇ ⊢
      refine hideQ fun Qb Eb hQb => ?_
      obtain ⟨o', pm', cd', doc', e', d', c'⟩ := S.f_su
      refine wpAny_execs_cons (wpAny_Expr (Call_ (ld_global_at F₇.toFr S.G S.g_su (callWith_def d' (args_cons (ld F₇.toFr lx (args_cons (ld F₇.toFr rfl (args_nil ⟨F₇.keep _ _ e', ?_⟩)))))))))
      refine siftup1 C (g := hideAll h₇ [H, Aq]) (by rw [depth_deeper]; omega) (by rw [units_deeper]; omega) (S.keeps (has_sub F₇.has (by repeat' (first | exact fa0 | exact .head _ | refine fa1 ?_ ?_ | refine .tail _ ?_)))) (C.mono _ _ hKW (has_sub F₇.has (by repeat' (first | exact fa0 | exact .head _ | refine fa1 ?_ ?_ | refine .tail _ ?_)))) (has_hide h₇ [H, Aq]) R₇ (by omega) (by omega) (by omega) ?_
      intro h₈ tk₈ qs₈ H₈ R₈
      dsimp only
      refine wpAny_execs_nil ?_
      have F₈ := F₇.back (sub := [H, Aq]) (by repeat' (first | exact fa0 | exact .head _ | refine fa1 ?_ ?_ | refine .tail _ ?_)) H₈
      have neL : ∀ {b : Addr} {its : Array Value}, h₇.IsList b its → it ≠ b := fun {b its} x q => by
        obtain ⟨o', e1, e2, _⟩ := x
        rw [← q, it₇] at e1; cases e1; exact absurd e2 (show Value.type "range_iterator" ≠ Value.type "list" by decide)
      have it₈ : IsRangeIter h₈ it ((k : Int) - 1) k (-1) := H₈.keep _ _ (hideAll_get _ it₇ (by simp only [List.mem_cons, List.not_mem_nil, or_false, not_or]; exact ⟨neL R₇.row.isList, neL R₇.ask.isList⟩))
      have hsl := su_len v n f₅ k lg₅
      have hmc : mc n n k ≤ 2 * n := mc_le n n k
      refine hQb _ _ ⟨k, by omega, h₈, tk₈, _, qs₈, _, _, rfl, F₈, lx, R₈, it₈, by omega, ?_, ?_⟩
      · have : 2 * n * (k + 1) = 2 * n * k + 2 * n := by rw [Nat.mul_add, Nat.mul_one]
        omega
      · rw [← htg₅]; rfl
end Mine

end
section
open PySem PySem.W PyProof.Rows
set_option linter.unusedVariables false
namespace Mine
theorem rowV_push {ka : Nat → Addr} {n : Nat} {f : Nat → Nat} {x : Nat} : (rowV ka n f).toArray.push (.ref (ka x)) = (rowV ka (n + 1) (upd f n x)).toArray := by
  simp only [List.push_toArray]
  congr 1
  unfold rowV
  rw [List.range_succ, List.map_append]
  congr 1
  · apply List.map_congr_left
    intro i hi
    rw [upd_ne _ _ (Nat.ne_of_lt (List.mem_range.mp hi))]
  · simp [upd_same]
set_option maxRecDepth 100000 in
theorem heappush1 {w : World} {KW : Heap → Prop} {ka : Nat → Addr} {v : Nat → Int} {N : Nat} {Aq H : Addr} {mg mb : Str → Option Value} (C : Ctx1 w KW ka v N Aq H)
    {A : Around} {E Q : Value → Shared → Prop} {g : Heap} {s : Shared} {n x : Nat} {f : Nat → Nat} {log : Log} {qs : List Value}
    (hd : A.depth + 16 < recursionLimit) (hu : A.units + 160 < cLine) (S : Sta mg mb g)
    (hKW : KW g) (HS : Has g s.heap [H, Aq]) (R : Row1 ka v N Aq H s.heap n f qs log) (hx : x < N) (hq : log.length + 2 * n < 5000) (hn : n < 60)
    (h : ∀ h' tk qs', Has g h' [H, Aq] → Row1 ka v N Aq H h' (n + 1) (sd v x 0 n (upd f n x) n log).1 qs' (sd v x 0 n (upd f n x) n log).2 → Q .none { s with heap := h', toks := tk }) :
    wpAny (model prog w) A (call (.ref 21) [.ref H, .ref (ka x)]) Q E s := by
  refine wpAny_call ?_
  have lH : ∀ a ∈ [H, Aq], a < s.heap.objs.size := by
    intro a ha
    simp only [List.mem_cons, List.not_mem_nil, or_false] at ha
    rcases ha with rfl | rfl
    · exact R.row.lt
    · exact R.ask.lt
  obtain ⟨o, pm, cd, doc, eo, ed, ec⟩ := S.f_push
  refine enter (by omega) HS lH eo ed S.lim ec (binds := [("heap", .ref H), ("item", .ref (ka x))]) (by rfl) (locs rfl) ?_
  intro L h₁ tk F hk hL
  have R₁ := R.keep hk
  refine wpAny_execs_cons (wpAny_Expr (wpAny_Call_append rfl rfl rfl rfl (ld F.toFr rfl ⟨H, _, rfl, R₁.row, ld F.toFr rfl (list_append_plainL R₁.row ?_ (by simp [rowV_len, sizeLine]; omega))⟩)))
  intro h₂ hH₂ hs₂
  rw [rowV_push] at hH₂
  have F₂ := F.turn (a := H) (by repeat (first | exact .head _ | refine .tail _ ?_)) hs₂
  have R₂ : Row1 ka v N Aq H h₂ (n + 1) (upd f n x) qs log := by
    refine ⟨hH₂, pl_same R₁.ask hs₂ (Ne.symm C.ne), R₁.prs.turn R₁.row.isList (rowV_head _ _ _) hs₂, fun i hi => ?_⟩
    unfold upd
    split
    · exact hx
    · exact R.low i (by omega)
  dsimp only
  obtain ⟨o', pm', cd', doc', e', d', c'⟩ := S.f_sd
  refine wpAny_execs_cons (wpAny_Expr (Call_ (ld_global_at F₂.toFr S.G S.g_sd (callWith_def d' (args_cons (ld F₂.toFr rfl (args_cons (wpAny_Constant_int (args_cons (wpAny_BinOp (Call_ (ld_builtin_at F₂.toFr S.G S.b_len.1 S.B S.b_len.2
    (PyProof.Rows.callWith_builtin1 (args_cons (ld F₂.toFr rfl (args_nil (Calls.call_len_list R₂.row.isList (by simp [rowV_len]; omega) (wpAny_Constant_int (sub_int (args_nil ⟨F₂.keep _ _ e', ?_⟩))))))))))))))))))))
  rw [show (((rowV ka (n + 1) (upd f n x)).toArray.size : Int) - 1) = (n : Int) by simp [rowV_len]]
  refine siftdown1 C (start := 0) (g := hideAll h₂ [H, Aq]) (by rw [depth_deeper]; omega) (by rw [units_deeper]; omega) (S.keeps (has_sub F₂.has (by repeat' (first | exact fa0 | exact .head _ | refine fa1 ?_ ?_ | refine .tail _ ?_)))) (C.mono _ _ hKW (has_sub F₂.has (by repeat' (first | exact fa0 | exact .head _ | refine fa1 ?_ ?_ | refine .tail _ ?_)))) (has_hide h₂ [H, Aq]) R₂ (by omega) (by omega) (by omega) ?_
  intro h₃ tk₃ qs₃ H₃ R₃
  dsimp only
  refine wpAny_execs_nil ?_
  have F₃ := F₂.back (sub := [H, Aq]) (by repeat' (first | exact fa0 | exact .head _ | refine fa1 ?_ ?_ | refine .tail _ ?_)) H₃
  rw [upd_same] at R₃
  exact h h₃ tk₃ qs₃ F₃.has R₃
end Mine

end
section
open PySem PySem.W PyProof.Rows
set_option linter.unusedVariables false
namespace Mine
/-- a def within a text -/
noncomputable def innerAt (l : List Stmt) (i : Nat) : Arguments × List Stmt × Scope := match (l[i]? : Option Stmt) with
  | some (Stmt.FunctionDef _ a b _ _ _ s _ _ _) => (a, b, s)
  | _ => (default, [], default)
noncomputable def clsBody : List Stmt := match ((bodyAt 10)[0]? : Option Stmt) with
  | some (Stmt.ClassDef _ _ _ b _ _ _ _ _ _ _) => b
  | _ => []
noncomputable abbrev ltD : Arguments × List Stmt × Scope := innerAt clsBody 3
noncomputable abbrev iniD : Arguments × List Stmt × Scope := innerAt clsBody 2
noncomputable abbrev cmpD : Arguments × List Stmt × Scope := innerAt (bodyAt 13) 0

/-- into a def with cells from around it -/
theorem enterX {w : World} {A : Around} {R : Result → Shared → Prop} {s : Shared} {g : Heap} {muts : List Addr} {name qual : Str} {params : Arguments} {body : List Stmt} {scope : Scope} {cl : List (Str × Addr)} {dV kV doc pm cd ct : Value} {an : Option Addr} {a : Addr} {o : Obj} {args : List Value} {binds : List (Str × Value)}
    (hroom : A.depth < recursionLimit) (HS : Has g s.heap muts) (hm : ∀ a ∈ muts, a < s.heap.objs.size) (ho : g.get? a = some o) (hdata : o.data = .func (fnX name qual params body scope cl dV kV doc pm an cd ct)) (hlim : g.NoLimit) (hcd : g.CodeRec cd qual)
    (hbind : BindsTo s (fnX name qual params body scope cl dV kV doc pm an cd ct) ⟨args, []⟩ binds) (hloc : ∀ x ∈ binds, scope.names.lookup x.1 = some .local)
    (h : ∀ L h₁ tk, Fx g L h₁ (fun x => binds.reverse.lookup x) muts → (∀ b o, s.heap.get? b = some o → h₁.get? b = some o) → s.heap.objs.size ≤ L →
      wpAny (model prog w) (A.deeper (envX qual scope L a cd cl)) (execs body (envX qual scope L a cd cl))
        (fun f s' => R (.ok (.ret (match f with | .ret v => v | _ => .none))) s') (fun _ _ => False) { s with heap := h₁, toks := tk })
    (hco : scope.isCoroutine = false := by rfl) (hgen : scope.isGenerator = false := by rfl) (hk : scope.kind = .function := by rfl) (hcell : ∀ x ∈ scope.names, x.2 ≠ .cell := by decide) :
    codeAny (model prog w) A (.call (.ref a) ⟨args, []⟩) R s := by
  refine codeAny_call_def (fd := fnX name qual params body scope cl dV kV doc pm an cd ct) (body := body) (binds := binds) hroom (HS.keep _ _ ho) hdata (hlim.keeps HS.keep) (hcd.keeps HS.keep) rfl hbind hcell hloc (fun h₁ hns hk₁ => ?_) hco hgen hk
  exact wpAny_mono (h s.heap.objs.size h₁ _ ⟨⟨hns, fun b o e => hk₁ b o (HS.keep b o e), HS.size⟩, HS.free, fun b hb => Nat.ne_of_lt (hm b hb)⟩ hk₁ (Nat.le_refl _)) (fun _ _ x => x) fun _ _ x => x.elim
section
variable {M : Model} {A : Around} {E : Value → Shared → Prop} {s : Shared} {name : Str} {scope : Scope} {L a : Addr} {cd : Value} {cl : List (Str × Addr)} {h₀ : Heap} {m : Str → Option Value}
theorem ldX {x : Str} {pos : Pos} {v : Value} {Q : Value → Shared → Prop} (F : Fr h₀ L s.heap m) (hv : m x = some v) (h : Q v s)
    (hk : scope.kind = .function := by rfl) (hl : (envX name scope L a cd cl).kindOf x = some .local := by rfl) (hd : (x == ("__debug__" : Str)) = false := by decide) :
    wpAny M A (eval (.Name x pos) (envX name scope L a cd cl)) Q E s := wpAny_Name (wpAny_loadName_local hk hl F.ns hv h) hd
theorem ldFree {x : Str} {pos : Pos} {v : Value} {c : Addr} {Q : Value → Shared → Prop} (hc : cl.lookup x = some c) (hv : s.heap.IsCell c (some v)) (h : Q v s)
    (hk : scope.kind = .function := by rfl) (hx : (envX name scope L a cd cl).kindOf x = some .free := by rfl) (hb : (x == ("__debug__" : Str)) = false := by decide) (hn : (x == ("__classdict__" : Str)) = false := by decide) :
    wpAny M A (eval (.Name x pos) (envX name scope L a cd cl)) Q E s := wpAny_Name (wpAny_loadName_free hk hx hc hv h hn) hb
end
theorem isCell_keep {h h' : Heap} {c : Addr} {v : Option Value} (x : h.IsCell c v) (k : ∀ b o, h.get? b = some o → h'.get? b = some o) : h'.IsCell c v :=
  let ⟨o, e, d⟩ := x; ⟨o, k _ _ e, d⟩

/-- where the keys' things lie -/
structure KA where
  C : Addr
  ns : Addr
  md : Addr
  lt : Addr
  ini : Addr
  cell : Addr
  cmp : Addr
  acell : Addr
  Aq : Addr
noncomputable def kCls (k : KA) : ClassData := { name := "K", bases := [.type "object"], mro := [.ref k.C, .type "object"], ns := k.ns, qualname := "cmp_to_key.<locals>.K", hasDict := false, slotNames := ["obj"] }
structure KFn (g : Heap) (a : Addr) (name qual : Str) (d : Arguments × List Stmt × Scope) (cl : List (Str × Addr)) : Prop where
  at_ : ∃ doc pm cd ct, g.get? a = some { cls := .type "function", data := .func (fnX name qual d.1 d.2.1 d.2.2 cl .none .none doc pm none cd ct) } ∧ g.CodeRec cd qual
theorem KFn.keeps {g g' : Heap} {a : Addr} {name qual : Str} {d : Arguments × List Stmt × Scope} {cl : List (Str × Addr)} (x : KFn g a name qual d cl) (k : ∀ b o, g.get? b = some o → g'.get? b = some o) : KFn g' a name qual d cl :=
  let ⟨⟨doc, pm, cd, ct, e, c⟩⟩ := x; ⟨⟨doc, pm, cd, ct, k _ _ e, c.keeps k⟩⟩
/-- a dict that answers to a class's names -/
noncomputable def NsAns (k : KA) (o : Obj) : Prop :=
  nsIn [(k.ns, o)] k.ns "__lt__" = some (some (.ref k.lt)) ∧ nsIn [(k.ns, o)] k.ns "obj" = some (some (.ref k.md)) ∧ nsIn [(k.ns, o)] k.ns "__init__" = some (some (.ref k.ini)) ∧
  nsIn [(k.ns, o)] k.ns "__getattribute__" = some none ∧ nsIn [(k.ns, o)] k.ns "__getattr__" = some none ∧ nsIn [(k.ns, o)] k.ns "__setattr__" = some none
/-- the class and what it needs -/
structure KCl (k : KA) (g : Heap) : Prop where
  cls : ∃ sl, g.get? k.C = some ⟨.type "type", none, .cls (kCls k), sl⟩ ∧ (sl.toList[4]?).join = some (.builtin "object.__new__")
  ns : ∃ o, g.get? k.ns = some o ∧ (∃ es n, o.data = .dict es n) ∧ NsAns k o
  md : ∃ tn, g.get? k.md = some { cls := .type "member_descriptor", data := .fields #[.str "obj" tn, .ref k.C, .builtin "proto.slot", .builtin "proto.slot#set", .int 0 0] }
  lt : KFn g k.lt "__lt__" "cmp_to_key.<locals>.K.__lt__" ltD [("mycmp", k.cell)]
  ini : KFn g k.ini "__init__" "cmp_to_key.<locals>.K.__init__" iniD []
  apart : k.lt ≠ k.ini
  cell : g.IsCell k.cell (some (.ref k.cmp))
  cmp : KFn g k.cmp "compare" "_law_keys.<locals>.compare" cmpD [("asked", k.acell)]
  acell : g.IsCell k.acell (some (.ref k.Aq))
theorem KCl.keeps {k : KA} {g g' : Heap} (x : KCl k g) (y : ∀ b o, g.get? b = some o → g'.get? b = some o) : KCl k g' where
  cls := let ⟨sl, e, r⟩ := x.cls; ⟨sl, y _ _ e, r⟩
  ns := let ⟨o, e, r⟩ := x.ns; ⟨o, y _ _ e, r⟩
  md := let ⟨tn, e⟩ := x.md; ⟨tn, y _ _ e⟩
  lt := x.lt.keeps y
  ini := x.ini.keeps y
  apart := x.apart
  cell := isCell_keep x.cell y
  cmp := x.cmp.keeps y
  acell := isCell_keep x.acell y
/-- a key -/
noncomputable def KeyAt (k : KA) (g : Heap) (x : Addr) (i : Int) : Prop := ∃ d t od, g.get? x = some ⟨.ref k.C, some d, .plain, #[some (.int i t)]⟩ ∧ g.get? d = some od
theorem KeyAt.keeps {k : KA} {g g' : Heap} {x : Addr} {i : Int} (h : KeyAt k g x i) (y : ∀ b o, g.get? b = some o → g'.get? b = some o) : KeyAt k g' x i :=
  let ⟨d, t, od, e, f⟩ := h; ⟨d, t, od, y _ _ e, y _ _ f⟩

set_option maxRecDepth 100000 in
theorem compare1 {w : World} {z : Addr} {k : KA} {A : Around} {E Q : Value → Shared → Prop} {g : Heap} {s : Shared} {qs : List Value} {ps : List (Int × Int)} {a b : Int} {t u : Tok}
    (hd : A.depth + 2 < recursionLimit) (hlim : g.NoLimit) (K : KCl k g) (HS : Has g s.heap [k.Aq]) (hA : PlainL s.heap k.Aq qs.toArray) (hq : qs.length < 10000) (hP : Pairs z s.heap qs ps) (hz : z < s.heap.objs.size)
    (h : ∀ h' tk q, Has g h' [k.Aq] → PlainL h' k.Aq (qs ++ [q]).toArray → Pairs z h' (qs ++ [q]) (ps ++ [(a, b)]) → Q (.int (a - b) tk) { s with heap := h', toks := tk + 1 }) :
    wpAny (model prog w) A (call (.ref k.cmp) [.int a t, .int b u]) Q E s := by
  refine wpAny_call ?_
  obtain ⟨⟨doc, pm, cd, ct, eo, ec⟩⟩ := K.cmp
  refine enterX (by omega) HS (by intro x hx; simp only [List.mem_cons, List.not_mem_nil, or_false] at hx; subst hx; exact hA.lt) eo rfl hlim ec (binds := [("one", .int a t), ("other", .int b u)]) (BindsTo.of_eq rfl) (locs rfl) ?_
  intro L h₁ tk F hk hL
  have hA₁ := pl_keep hA (hk _)
  have hP₁ : Pairs z h₁ qs ps := hP.mono fun a i t j u hl => isList_keep hl (hk _)
  refine wpAny_execs_cons (wpAny_Expr (wpAny_Call_append rfl rfl rfl rfl (ldFree rfl (isCell_keep K.acell F.keep) ⟨k.Aq, _, rfl, hA₁, ?_⟩)))
  refine List_ (args_cons (ldX F.toFr rfl (args_cons (ldX F.toFr rfl (args_nil (wpAny_newObj_type ?_ (by show (2 : Nat) ≤ sizeLine; decide)))))))
  generalize hr : h₁.push _ = h₂
  have F₂ : Fx g L h₂ _ [k.Aq] := hr ▸ F.push _
  have hA₂ : PlainL h₂ k.Aq qs.toArray := hr ▸ pl_keep hA₁ fun o e => Heap.get?_push_of_some _ e
  have hP₂ : Pairs z h₂ qs ps := hr ▸ hP₁.push _
  have hq₂ : h₂.IsList h₁.objs.size #[.int a t, .int b u] := hr ▸ ⟨_, Heap.get?_push_size _ rfl, rfl, 0, rfl⟩
  refine list_append_plainL hA₂ ?_ (by simp [sizeLine]; omega)
  intro h₃ hA₃ hs₃
  rw [List.push_toArray] at hA₃
  have F₃ := F₂.turn (a := k.Aq) (by repeat (first | exact .head _ | refine .tail _ ?_)) hs₃
  have hP₃ : Pairs z h₃ qs ps := hP₂.turn hA₂.isList hP₂.refHead hs₃
  have hq₃ : PairAt z h₃ (.ref h₁.objs.size) (a, b) := ⟨_, t, u, rfl, isList_same hq₂ hs₃ (pair_ne hq₂ hA₂.isList hP₂.refHead), Nat.lt_of_lt_of_le hz (Nat.le_trans hL (Nat.le_of_lt F.ns.lt))⟩
  dsimp only
  refine wpAny_execs_cons (wpAny_Return_some (wpAny_BinOp (ldX F₃.toFr rfl (ldX F₃.toFr rfl (sub_int ?_)))))
  exact h h₃ _ _ F₃.has hA₃ (hP₃.snoc hq₃)

/-! what the keys' class answers -/
section
variable {k : KA} {g : Heap}
noncomputable def kFrag (k : KA) (oC oN oL oM oI : Obj) : Frag := [(k.C, oC), (k.ns, oN), (k.lt, oL), (k.md, oM), (k.ini, oI)]
theorem KCl.frag (K : KCl k g) : ∃ sl oN oL tn oI, (kFrag k ⟨.type "type", none, .cls (kCls k), sl⟩ oN oL { cls := .type "member_descriptor", data := .fields #[.str "obj" tn, .ref k.C, .builtin "proto.slot", .builtin "proto.slot#set", .int 0 0] } oI).In g ∧
    (sl.toList[4]?).join = some (.builtin "object.__new__") ∧ NsAns k oN ∧ oL.cls = .type "function" ∧ oI.cls = .type "function" ∧ k.ns ≠ k.C ∧ k.lt ≠ k.C ∧ k.lt ≠ k.ns ∧ k.md ≠ k.C ∧ k.md ≠ k.ns ∧ k.md ≠ k.lt ∧ k.ini ≠ k.C ∧ k.ini ≠ k.ns ∧ k.ini ≠ k.lt ∧ k.ini ≠ k.md := by
  obtain ⟨sl, eC, hs⟩ := K.cls
  obtain ⟨oN, eN, ⟨es, n, dN⟩, hN⟩ := K.ns
  obtain ⟨tn, eM⟩ := K.md
  obtain ⟨⟨_, _, _, _, eL, _⟩⟩ := K.lt
  obtain ⟨⟨_, _, _, _, eI, _⟩⟩ := K.ini
  have n1 : k.ns ≠ k.C := fun q => by rw [q, eC] at eN; cases eN; cases dN
  have n2 : k.lt ≠ k.C := fun q => by rw [q, eC] at eL; exact nomatch (congrArg Obj.data (Option.some.inj eL))
  have n3 : k.lt ≠ k.ns := fun q => by rw [q, eN] at eL; cases eL; cases dN
  have n4 : k.md ≠ k.C := fun q => by rw [q, eC] at eM; exact nomatch (congrArg Obj.data (Option.some.inj eM))
  have n5 : k.md ≠ k.ns := fun q => by rw [q, eN] at eM; cases eM; cases dN
  have n6 : k.md ≠ k.lt := fun q => by rw [q, eL] at eM; exact nomatch (congrArg Obj.data (Option.some.inj eM))
  have n7 : k.ini ≠ k.C := fun q => by rw [q, eC] at eI; exact nomatch (congrArg Obj.data (Option.some.inj eI))
  have n8 : k.ini ≠ k.ns := fun q => by rw [q, eN] at eI; cases eI; cases dN
  have n9 : k.ini ≠ k.md := fun q => by rw [q, eM] at eI; exact nomatch (congrArg Obj.data (Option.some.inj eI))
  have key : ∀ oL oI, g.get? k.lt = some oL → g.get? k.ini = some oI → (kFrag k ⟨.type "type", none, .cls (kCls k), sl⟩ oN oL { cls := .type "member_descriptor", data := .fields #[.str "obj" tn, .ref k.C, .builtin "proto.slot", .builtin "proto.slot#set", .int 0 0] } oI).In g := by
    intro oL oI eL eI a o e
    unfold kFrag at e
    simp only [List.lookup_cons, List.lookup_nil] at e
    split at e
    · rename_i q; cases e; rw [beq_iff_eq.mp q]; exact eC
    split at e
    · rename_i q; cases e; rw [beq_iff_eq.mp q]; exact eN
    split at e
    · rename_i q; cases e; rw [beq_iff_eq.mp q]; exact eL
    split at e
    · rename_i q; cases e; rw [beq_iff_eq.mp q]; exact eM
    split at e
    · rename_i q; cases e; rw [beq_iff_eq.mp q]; exact eI
    · cases e
  exact ⟨sl, oN, _, tn, _, key _ _ eL eI, hs, hN, rfl, rfl, n1, n2, n3, n4, n5, n6, n7, n8, Ne.symm K.apart, n9⟩
end
section
variable {k : KA} {sl : Array (Option Value)} {oN oL oM oI : Obj}
noncomputable abbrev kF (k : KA) (sl : Array (Option Value)) (oN oL oM oI : Obj) : Frag := kFrag k ⟨.type "type", none, .cls (kCls k), sl⟩ oN oL oM oI
theorem kF_C : (kF k sl oN oL oM oI).lookup k.C = some ⟨.type "type", none, .cls (kCls k), sl⟩ := by unfold kF kFrag; simp [List.lookup_cons]
theorem kF_ns (h1 : k.ns ≠ k.C) : (kF k sl oN oL oM oI).lookup k.ns = some oN := by unfold kF kFrag; simp [List.lookup_cons, beq_eq_false_iff_ne.mpr h1]
theorem kF_lt (h1 : k.lt ≠ k.C) (h2 : k.lt ≠ k.ns) : (kF k sl oN oL oM oI).lookup k.lt = some oL := by unfold kF kFrag; simp [List.lookup_cons, beq_eq_false_iff_ne.mpr h1, beq_eq_false_iff_ne.mpr h2]
theorem kF_md (h1 : k.md ≠ k.C) (h2 : k.md ≠ k.ns) (h3 : k.md ≠ k.lt) : (kF k sl oN oL oM oI).lookup k.md = some oM := by
  unfold kF kFrag; simp [List.lookup_cons, beq_eq_false_iff_ne.mpr h1, beq_eq_false_iff_ne.mpr h2, beq_eq_false_iff_ne.mpr h3]
theorem kF_ini (h1 : k.ini ≠ k.C) (h2 : k.ini ≠ k.ns) (h3 : k.ini ≠ k.lt) (h4 : k.ini ≠ k.md) : (kF k sl oN oL oM oI).lookup k.ini = some oI := by
  unfold kF kFrag; simp [List.lookup_cons, beq_eq_false_iff_ne.mpr h1, beq_eq_false_iff_ne.mpr h2, beq_eq_false_iff_ne.mpr h3, beq_eq_false_iff_ne.mpr h4]
theorem kF_nsIn (h1 : k.ns ≠ k.C) (name : Str) : nsIn (kF k sl oN oL oM oI) k.ns name = nsIn [(k.ns, oN)] k.ns name := by
  unfold nsIn
  rw [kF_ns h1]
  simp [List.lookup_cons]
/-- a name that the class itself has -/
theorem kF_own {name : Str} {v : Value} (h1 : k.ns ≠ k.C) (h : nsIn [(k.ns, oN)] k.ns name = some (some v)) : findIn (kF k sl oN oL oM oI) (.ref k.C) name = some (some v) := by
  unfold findIn
  simp only [kF_C]
  unfold kCls alongIn ownIn
  simp only [kF_C, kCls]
  rw [kF_nsIn h1, h]
theorem kF_up {name : Str} {r : Option Value} (h1 : k.ns ≠ k.C) (h : nsIn [(k.ns, oN)] k.ns name = some none) (ho : fastBuiltinOwn "object" name = r) : findIn (kF k sl oN oL oM oI) (.ref k.C) name = some r := by
  unfold findIn
  simp only [kF_C]
  unfold kCls alongIn ownIn
  simp only [kF_C, kCls]
  rw [kF_nsIn h1, h]
  dsimp only
  unfold alongIn ownIn
  dsimp only
  rw [ho]
  cases r with
  | some v => rfl
  | none => rfl
theorem fl_md_get : fastLookup "member_descriptor" "__get__" = some (some (.builtin "member_descriptor.__get__")) := by kernel_rfl
theorem fl_md_set : fastLookup "member_descriptor" "__set__" = some (some (.builtin "member_descriptor.__set__")) := by kernel_rfl
theorem own_ga : fastBuiltinOwn "object" "__getattribute__" = some (.builtin "object.__getattribute__") := by kernel_rfl
theorem own_gt : fastBuiltinOwn "object" "__getattr__" = none := by kernel_rfl
theorem own_sa : fastBuiltinOwn "object" "__setattr__" = some (.builtin "object.__setattr__") := by kernel_rfl
noncomputable abbrev mdObj (k : KA) (tn : Tok) : Obj := { cls := .type "member_descriptor", data := .fields #[.str "obj" tn, .ref k.C, .builtin "proto.slot", .builtin "proto.slot#set", .int 0 0] }
theorem kF_clsIn : clsIn (kF k sl oN oL oM oI) k.C = some (kCls k) := by unfold clsIn; rw [kF_C]
theorem kF_slot {tn : Tok} (h1 : k.md ≠ k.C) (h2 : k.md ≠ k.ns) (h3 : k.md ≠ k.lt) : slotIn (kF k sl oN oL (mdObj k tn) oI) k.md k.C = some 0 := by
  unfold slotIn recIn
  rw [kF_md h1 h2 h3, kF_clsIn]
  simp [kCls]
theorem kF_mdType {tn : Tok} (h1 : k.md ≠ k.C) (h2 : k.md ≠ k.ns) (h3 : k.md ≠ k.lt) : typeIn (kF k sl oN oL (mdObj k tn) oI) (.ref k.md) = some (.type "member_descriptor") := by
  show ((kF k sl oN oL (mdObj k tn) oI).lookup k.md).map (·.cls) = _
  rw [kF_md h1 h2 h3]; rfl
theorem kF_get {tn : Tok} (h1 : k.md ≠ k.C) (h2 : k.md ≠ k.ns) (h3 : k.md ≠ k.lt) : specialIn (kF k sl oN oL (mdObj k tn) oI) (.ref k.md) "__get__" = some (some (.builtin "member_descriptor.__get__")) := by
  unfold specialIn
  rw [kF_mdType h1 h2 h3]
  exact fl_md_get
theorem kF_takes {tn : Tok} (h1 : k.md ≠ k.C) (h2 : k.md ≠ k.ns) (h3 : k.md ≠ k.lt) : takesIn (kF k sl oN oL (mdObj k tn) oI) (.ref k.md) = some true := by
  have : specialIn (kF k sl oN oL (mdObj k tn) oI) (.ref k.md) "__set__" = some (some (.builtin "member_descriptor.__set__")) := by
    unfold specialIn
    rw [kF_mdType h1 h2 h3]
    exact fl_md_set
  unfold takesIn
  rw [this]
end
theorem get_obj {w : World} {k : KA} {A : Around} {E Q : Value → Shared → Prop} {g : Heap} {s : Shared} {x : Addr} {i : Int} {expr : Bool} (K : KCl k g) (hk : KeyAt k g x i) (keep : ∀ b o, g.get? b = some o → s.heap.get? b = some o)
    (h : ∀ t, Q (.int i t) { s with toks := s.toks + 1 }) : wpAny (model prog w) A (getAttr (.ref x) "obj" expr) Q E s := by
  obtain ⟨sl, oN, oL, tn, oI, X, hs, hN, cL, cI, n1, n2, n3, n4, n5, n6, n7, n8, n9, n10⟩ := K.frag
  obtain ⟨d, t, od, ex, edd⟩ := hk
  have X' := X.keeps keep
  have I : InstAt s.heap x ⟨.ref k.C, some d, .plain, #[some (.int i t)]⟩ k.C (some od) := ⟨keep _ _ ex, rfl, rfl, keep _ _ edd⟩
  refine get_bind X' I (kF_up n1 hN.2.2.2.1 own_ga) (findObj_data (by rw [kF_clsIn]; rfl) (kF_own n1 hN.2.1) (kF_get n4 n5 n6) (kF_takes n4 n5 n6)) (kF_up n1 hN.2.2.2.2.1 own_gt) ?_
  exact wpAny_call (slot_get (s := { s with toks := s.toks + 1 }) X' I (kF_slot n4 n5 n6) rfl (handed_on rfl (h t)))
set_option maxRecDepth 100000 in
theorem ltcall1 {w : World} {z : Addr} {k : KA} {A : Around} {E Q : Value → Shared → Prop} {g : Heap} {s : Shared} {qs : List Value} {ps : List (Int × Int)} {x y : Addr} {a b : Int}
    (hd : A.depth + 4 < recursionLimit) (hlim : g.NoLimit) (K : KCl k g) (hx : KeyAt k g x a) (hy : KeyAt k g y b) (HS : Has g s.heap [k.Aq]) (hA : PlainL s.heap k.Aq qs.toArray) (hq : qs.length < 10000) (hP : Pairs z s.heap qs ps) (hz : z < s.heap.objs.size)
    (h : ∀ h' tk q, Has g h' [k.Aq] → PlainL h' k.Aq (qs ++ [q]).toArray → Pairs z h' (qs ++ [q]) (ps ++ [(a, b)]) → Q (.bool (decide (a < b))) { s with heap := h', toks := tk }) :
    wpAny (model prog w) A (call (.ref k.lt) [.ref x, .ref y]) Q E s := by
  refine wpAny_call ?_
  obtain ⟨⟨doc, pm, cd, ct, eo, ec⟩⟩ := K.lt
  refine enterX (by omega) HS (by intro x hx; simp only [List.mem_cons, List.not_mem_nil, or_false] at hx; subst hx; exact hA.lt) eo rfl hlim ec (binds := [("self", .ref x), ("other", .ref y)]) (BindsTo.of_eq rfl) (locs rfl) ?_
  intro L h₁ tk F hk hL
  have hA₁ := pl_keep hA (hk _)
  have hP₁ : Pairs z h₁ qs ps := hP.mono fun a i t j u hl => isList_keep hl (hk _)
  obtain ⟨oc', fd', eo', dd'⟩ : ∃ o fd, g.get? k.cmp = some o ∧ o.data = .func fd := let ⟨⟨_, _, _, _, e, _⟩⟩ := K.cmp; ⟨_, _, e, rfl⟩
  refine wpAny_execs_cons (wpAny_Return_some (wpAny_Compare1 (Call_ (ldFree rfl (isCell_keep K.cell F.keep) (callWith_def dd' (args_cons (Attribute_name (ldX F.toFr rfl (get_obj K hx F.keep fun t => ?_)))))))))
  refine args_cons (Attribute_name (ldX F.toFr rfl (get_obj K hy F.keep fun u => args_nil ⟨F.keep _ _ eo', ?_⟩)))
  have sub1 : ∀ b o, g.get? b = some o → (hideAll h₁ [k.Aq]).get? b = some o := has_sub F.has (by repeat' (first | exact fa0 | exact .head _ | refine fa1 ?_ ?_ | refine .tail _ ?_))
  refine compare1 (g := hideAll h₁ [k.Aq]) (by rw [depth_deeper]; omega) (hlim.keeps sub1) (K.keeps sub1) (has_hide h₁ [k.Aq]) hA₁ hq hP₁ (Nat.lt_of_lt_of_le hz (Nat.le_trans hL (Nat.le_of_lt F.ns.lt))) ?_
  intro h₂ tk₂ q H₂ hA₂ hP₂
  have F₂ := F.back (sub := [k.Aq]) (by repeat' (first | exact fa0 | exact .head _ | refine fa1 ?_ ?_ | refine .tail _ ?_)) H₂
  refine wpAny_Constant_int (lt_int ?_)
  rw [show decide (a - b < 0) = decide (a < b) from decide_eq_decide.mpr (by omega)]
  exact h h₂ _ q F₂.has hA₂ hP₂

noncomputable def KWd (k : KA) (ka : Nat → Addr) (v : Nat → Int) (N : Nat) (g : Heap) : Prop := g.NoLimit ∧ KCl k g ∧ ∀ j, j < N → KeyAt k g (ka j) (v j)
theorem kwd_mono {k : KA} {ka : Nat → Addr} {v : Nat → Int} {N : Nat} : ∀ g g', KWd k ka v N g → (∀ b o, g.get? b = some o → g'.get? b = some o) → KWd k ka v N g' :=
  fun g g' ⟨a, b, c⟩ y => ⟨a.keeps y, b.keeps y, fun j hj => (c j hj).keeps y⟩
theorem ltSpec {w : World} {k : KA} {ka : Nat → Addr} {v : Nat → Int} {N : Nat} : LtSpec w (KWd k ka v N) ka v N k.Aq := by
  intro A E Q g s qs ps i j g0 L m hd hu F ⟨hlim0, K0, hK0⟩ ⟨hlim, K, hK⟩ HS hA hq hP hi hj h
  obtain ⟨sl, oN, oL, tn, oI, X, hs, hN, cL, cI, n1, n2, n3, n4, n5, n6, n7, n8, n9, n10⟩ := K0.frag
  obtain ⟨d, t, od, ex, edd⟩ := hK i hi
  obtain ⟨d', t', od', ex', edd'⟩ := hK j hj
  have I : InstAt s.heap (ka i) ⟨.ref k.C, some d, .plain, #[some (.int (v i) t)]⟩ k.C (some od) := ⟨HS.keep _ _ ex, rfl, rfl, HS.keep _ _ edd⟩
  have I' : InstAt s.heap (ka j) ⟨.ref k.C, some d', .plain, #[some (.int (v j) t')]⟩ k.C (some od') := ⟨HS.keep _ _ ex', rfl, rfl, HS.keep _ _ edd'⟩
  refine cmp_K (f := k.lt) (by omega) F X I I'.type ?_ (kF_own n1 hN.1) ?_ (ltcall1 (by omega) hlim K (hK i hi) (hK j hj) HS hA hq hP (by obtain ⟨_, _, _, e0, _⟩ := hK 0 (by omega); exact Heap.lt_size (HS.keep _ _ e0)) ?_)
  · unfold notFirst; simp
  · unfold isFn
    show (((kFrag _ _ _ _ _ _).lookup k.lt).map (·.cls) == _) = true
    rw [show (kFrag k ⟨.type "type", none, .cls (kCls k), sl⟩ oN oL _ oI).lookup k.lt = some oL from kF_lt n2 n3]
    simp [cL]
  · intro h' tk q H' hA' hP'
    exact h h' tk q H' hA' hP'
end Mine

end
section
open PySem PySem.W PyProof.Rows
set_option linter.unusedVariables false
namespace Mine
/-! parse257 of marks -/
noncomputable def marks (m : Nat) : List Nat := List.replicate m 34
noncomputable def respL (m : Nat) : List Nat := [50, 53, 55, 32, 34] ++ marks m ++ [120]
noncomputable def strL (l : List Nat) : Str := ⟨l.toArray⟩
theorem strL_len (l : List Nat) : (strL l).length = l.length := by simp [strL, Str.length]
theorem strL_app (a b : List Nat) : strL a ++ strL b = strL (a ++ b) := by
  apply Str.ext'
  rw [Str.cps_append]; simp [strL]
noncomputable def toldL (m : Nat) : List Nat := marks (m / 2) ++ (if m % 2 = 0 then [120] else [])
theorem respL_len (m : Nat) : (respL m).length = m + 6 := by simp [respL, marks]
theorem respL_mark {m i : Nat} (h : i < m) : (respL m)[5 + i]? = some 34 := by
  unfold respL marks
  rw [List.append_assoc, List.getElem?_append_right (by simp)]
  simp [h, List.getElem?_append]
theorem respL_x {m : Nat} : (respL m)[5 + m]? = some 120 := by
  unfold respL marks
  rw [List.append_assoc, List.getElem?_append_right (by simp)]
  simp [List.getElem?_append]
theorem respL_3 : ∀ m, m < 22 → Txt.slice (strL (respL m)) none (some 3) = strL [50, 53, 55] := by decide +kernel
theorem respL_35 : ∀ m, m < 22 → Txt.slice (strL (respL m)) (some 3) (some 5) = strL [32, 34] := by decide +kernel
section
variable {w : World} {A : Around} {E : Value → Shared → Prop} {s : Shared}
theorem add_ss {a b : List Nat} {t u : Tok} {Q : Value → Shared → Prop} (hl : a.length + b.length < 1000) (h : ∀ t' k, Q (.str (strL (a ++ b)) t') { s with toks := k }) : wpAny (model prog w) A (binaryOp .Add (.str (strL a) t) (.str (strL b) u)) Q E s := by
  refine P.add_str ?_
  rw [strL_len, strL_len]
  cases a with
  | nil => exact h u _
  | cons x a =>
    cases b with
    | nil => have := h t s.toks; rw [List.append_nil] at this; exact this
    | cons y b =>
      rw [strL_app]
      exact ⟨by rw [strL_len]; simp [sizeLine] at hl ⊢; omega, h _ _⟩
theorem item_ss {value slice : Expr} {l : List Nat} {t : Tok} {k c : Nat} {u : Tok} {Q : Value → Shared → Prop} (hl : l.length < 1000) (hx : l[k]? = some c) (h : Q (.str (strL [c]) s.toks) { s with toks := s.toks + 1 })
    (hs : subscripted slice false (.str (strL l) t) (.int k u) = operate [.str (strL l) t, .int k u] (getItem (.str (strL l) t) (.int k u)) := by with_unfolding_all rfl) :
    wpAny (model prog w) A (subscriptTail value slice (.str (strL l) t) (.int k u)) Q E s := by
  have hk : k < l.length := (List.getElem?_eq_some_iff.mp hx).1
  refine tail_any (typeIs_str s _ t) PySem.F.slot_str_getitem.lookup (P.getItem_str ?_ ?_ h) hs
  · simp only [Bool.or_eq_false_iff, decide_eq_false_iff_not]; omega
  · have : seqIndex? (k : Int) (strL l).length = some k := by
      rw [strL_len]; unfold seqIndex?; simp; omega
    rw [this]
    simp [strL, hx]
end
theorem ne_ss {w : World} {A : Around} {E : Value → Shared → Prop} {s : Shared} {a b : List Nat} {t u : Tok} {Q : Value → Shared → Prop} (h : Q (.bool (a != b)) s) : wpAny (model prog w) A (compareOp .NotEq (.str (strL a) t) (.str (strL b) u)) Q E s := P.ne_str h
theorem eq_ss {w : World} {A : Around} {E : Value → Shared → Prop} {s : Shared} {a b : List Nat} {t u : Tok} {Q : Value → Shared → Prop} (h : Q (.bool (a == b)) s) : wpAny (model prog w) A (compareOp .Eq (.str (strL a) t) (.str (strL b) u)) Q E s := P.eq_str h

theorem lit_ss (x : String) (l : List Nat) (h : (Str.ofString x).cps.toList = l) : Str.ofString x = strL l := by
  apply Str.ext'; rw [← h]; rfl
theorem part_some {M : Model} {A : Around} {E : Value → Shared → Prop} {s : Shared} {env : Env} {e : Expr} {Q : Value → Shared → Prop} (h : wpAny M A (eval e env) Q E s) : wpAny M A (evalPart (some e) env) Q E s := h
theorem part_none {M : Model} {A : Around} {E : Value → Shared → Prop} {s : Shared} {env : Env} {Q : Value → Shared → Prop} (h : Q .none s) : wpAny M A (evalPart none env) Q E s := wpAny_pure h
structure LocP (m : Str → Option Value) (r : Value) (d : List Nat) (i n : Nat) : Prop where
  lR : m "resp" = some r
  lD : ∃ t, m "dirname" = some (.str (strL d) t)
  lI : ∃ t, m "i" = some (.int i t)
  lN : ∃ t, m "n" = some (.int n t)
inductive PaF (g : Heap) (s : Shared) (L m : Nat) (r : Result) (s' : Shared) : Prop
  | mk (h' : Heap) (tk : Nat) (m' : Str → Option Value) (t : Tok) (e0 : r = .ok .next) (e1 : s' = { s with heap := h', toks := tk }) (F : Fx g L h' m' []) (l : m' "dirname" = some (.str (strL (toldL m)) t))
inductive PaI (g : Heap) (s : Shared) (L m : Nat) (r : Value) (k : Nat) (s' : Shared) : Prop
  | mk (h' : Heap) (tk : Nat) (m' : Str → Option Value) (d : List Nat) (i : Nat) (ek : m + 6 - i = k) (e1 : s' = { s with heap := h', toks := tk }) (F : Fx g L h' m' []) (l : LocP m' r d i (m + 6))
      (o : (∃ j, 2 * j ≤ m ∧ i = 5 + 2 * j ∧ d = marks j) ∨ (i = m + 6 ∧ d = toldL m))
set_option maxRecDepth 100000 in
set_option maxHeartbeats 4000000 in
theorem parse1 {w : World} {mg mb : Str → Option Value} {A : Around} {E Q : Value → Shared → Prop} {g : Heap} {s : Shared} {m : Nat} {t : Tok}
    (hd : A.depth + 4 < recursionLimit) (S : Sta mg mb g) (HS : Has g s.heap []) (hm : m < 22)
    (h : ∀ h' tk t', Has g h' [] → Q (.str (strL (toldL m)) t') { s with heap := h', toks := tk }) :
    wpAny (model prog w) A (call (.ref 74) [.str (strL (respL m)) t]) Q E s := by
  refine wpAny_call ?_
  obtain ⟨o, pm, cd, doc, eo, ed, ec⟩ := S.f_parse
  refine enter (by omega) HS (by simp) eo ed S.lim ec (binds := [("resp", .str (strL (respL m)) t)]) (by rfl) (locs rfl) ?_
  intro L h₁ tk F hk hL
  have hlen := respL_len m
  refine wpAny_execs_cons (wpAny_If (wpAny_isTrue_Compare1 (Subscript_ (ld F.toFr rfl (wpAny_Slice (part_none (part_some (wpAny_Constant_int (part_none (slice_str_ns F.toFr ?_ (hsz := by rw [strL_len, hlen]; simp [sizeLine]; omega)))))))))))
  intro h₂ t₂ k₂ F₂
  rw [respL_3 m hm]
  refine wpAny_Constant_str ?_
  rw [lit_ss "257" [50, 53, 55] (by decide +kernel)]
  refine ne_ss (wpAny_truthy_bool ?_)
  rw [if_neg (by decide)]
  refine wpAny_execs_nil ?_
  refine wpAny_execs_cons (wpAny_If (wpAny_isTrue_Compare1 (Subscript_ (ld F₂ rfl (wpAny_Slice (part_some (wpAny_Constant_int (part_some (wpAny_Constant_int (part_none (slice_str_ss F₂ ?_ (hsz := by rw [strL_len, hlen]; simp [sizeLine]; omega))))))))))))
  intro h₃ t₃ k₃ F₃
  rw [respL_35 m hm]
  refine wpAny_Constant_str ?_
  rw [lit_ss " \"" [32, 34] (by decide +kernel)]
  refine ne_ss (wpAny_truthy_bool ?_)
  rw [if_neg (by decide)]
  refine wpAny_execs_nil ?_
  have F₃' : Fx g L h₃ _ [] := ⟨F₃, by simp, by simp⟩
  refine wpAny_execs_cons (wpAny_Assign_Name (wpAny_Constant_str (stx F₃' ?_)))
  intro h₄ F₄ hs₄
  rw [lit_ss "" [] (by decide +kernel)] at F₄
  dsimp only at F₄ ⊢
  refine wpAny_execs_cons (wpAny_Assign_Name (wpAny_Constant_int (stx F₄ ?_)))
  intro h₅ F₅ hs₅
  dsimp only at F₅ ⊢
  refine wpAny_execs_cons (wpAny_Assign_Name (Call_ (ld_builtin_at F₅.toFr S.G S.b_len.1 S.B S.b_len.2 (PyProof.Rows.callWith_builtin1 (args_cons (ld F₅.toFr rfl (args_nil (P.len_str (by rw [strL_len, hlen]; omega) (stx F₅ ?_)))))))))
  intro h₆ F₆ hs₆
  rw [strL_len, hlen] at F₆
  dsimp only at F₆ ⊢
  refine wpAny_execs_cons (wpAny_While (codeAny_mono (R := PaF g s L m)
    (codeAny_whileLoop (PaI g s L m (.str (strL (respL m)) t))
      ?turn (m + 6 - 5) ?init) ?fin))
  case init => exact ⟨h₆, _, _, [], 5, rfl, rfl, F₆, ⟨rfl, ⟨_, rfl⟩, ⟨_, rfl⟩, ⟨_, rfl⟩⟩, .inl ⟨0, by omega, rfl, rfl⟩⟩
  case fin =>
    rintro r s' ⟨h₇, tk₇, m₇, t₇, rfl, rfl, F₇, hd₇⟩
    dsimp only
    exact wpAny_execs_cons (wpAny_Return_some (ld F₇.toFr hd₇ (h h₇ _ _ F₇.has)))
  case turn =>
    intro k s' hI9
    refine hideQ fun Qa Ea hQa => ?_
    obtain ⟨h₇, tk₇, m₇, d, i, rfl, rfl, F₇, ⟨lR, ⟨td, lD⟩, ⟨ti, lI⟩, ⟨tn, lN⟩⟩, hor⟩ := hI9
    refine wpAny_isTrue_Compare1 (ld F₇.toFr lI (ld F₇.toFr lN (lt_int (wpAny_truthy_bool (hQa _ _ ?_)))))
    rcases hor with ⟨j, hj, rfl, rfl⟩ | ⟨rfl, rfl⟩
    · rw [decide_eq_true (show ((5 + 2 * j : Nat) : Int) < ((m + 6 : Nat) : Int) by omega), if_pos rfl]
      refine hideQ fun Qb Eb hQb => ?_
      have hc : ∃ c, (respL m)[5 + 2 * j]? = some c ∧ ((2 * j < m ∧ c = 34) ∨ (2 * j = m ∧ c = 120)) := by
        by_cases h2 : 2 * j < m
        · exact ⟨34, respL_mark h2, .inl ⟨h2, rfl⟩⟩
        · have : 2 * j = m := by omega
          exact ⟨120, by rw [this]; exact respL_x, .inr ⟨this, rfl⟩⟩
      obtain ⟨c, hc, hcc⟩ := hc
      refine wpAny_execs_cons (wpAny_Assign_Name (Subscript_ (ld F₇.toFr lR (ld F₇.toFr lI (item_ss (by rw [hlen]; omega) hc (stx F₇ ?_))))))
      intro h₈ F₈ hs₈
      dsimp only at F₈ ⊢
      refine wpAny_execs_cons (wpAny_Assign_Name (wpAny_BinOp (ld F₈.toFr lI (wpAny_Constant_int (add_int (stx F₈ ?_))))))
      intro h₉ F₉ hs₉
      rw [show ((5 + 2 * j : Nat) : Int) + 1 = ((6 + 2 * j : Nat) : Int) by omega] at F₉
      dsimp only at F₉ ⊢
      refine wpAny_execs_cons (wpAny_If (wpAny_isTrue_Compare1 (ld F₉.toFr rfl (wpAny_Constant_str ?_))))
      rw [lit_ss "\"" [34] (by decide +kernel)]
      refine eq_ss (wpAny_truthy_bool ?_)
      rcases hcc with ⟨h2, rfl⟩ | ⟨h2, rfl⟩
      · rw [if_pos (by decide)]
        refine wpAny_execs_cons (wpAny_If (wpAny_isTrue_BoolOp (wpAny_allTrue_Or_cons (wpAny_isTrue_Compare1 (ld F₉.toFr rfl (ld F₉.toFr lN (ge_int (wpAny_truthy_bool ?_))))))))
        rw [decide_eq_false (by omega), if_neg (by decide)]
        by_cases h3 : 2 * j + 1 < m
        · have hc' : (respL m)[6 + 2 * j]? = some 34 := by
            have := respL_mark (m := m) (i := 2 * j + 1) h3
            rw [show 5 + (2 * j + 1) = 6 + 2 * j by omega] at this
            exact this
          refine wpAny_allTrue_Or_cons (wpAny_isTrue_Compare1 (Subscript_ (ld F₉.toFr lR (ld F₉.toFr rfl (item_ss (by rw [hlen]; omega) hc' (wpAny_Constant_str ?_))))))
          refine ne_ss (wpAny_truthy_bool ?_)
          rw [if_neg (by decide)]
          refine wpAny_allTrue_Or_nil ?_
          rw [if_neg (by decide)]
          refine wpAny_execs_nil ?_
          refine wpAny_execs_cons (wpAny_Assign_Name (wpAny_BinOp (ld F₉.toFr rfl (wpAny_Constant_int (add_int (stx F₉ ?_))))))
          intro h₁₀ F₁₀ hs₁₀
          rw [show ((6 + 2 * j : Nat) : Int) + 1 = ((7 + 2 * j : Nat) : Int) by omega] at F₁₀
          dsimp only at F₁₀ ⊢
          refine wpAny_execs_nil ?_
          refine wpAny_execs_cons (wpAny_Assign_Name (wpAny_BinOp (ld F₁₀.toFr lD (ld F₁₀.toFr rfl (add_ss (by simp [marks]; omega) fun t' k' => stx F₁₀ ?_)))))
          intro h₁₁ F₁₁ hs₁₁
          dsimp only at F₁₁ ⊢
          have he : marks j ++ [34] = marks (j + 1) := by unfold marks; rw [List.replicate_succ']
          rw [he] at F₁₁
          refine wpAny_execs_nil (hQb _ _ ⟨m + 6 - (7 + 2 * j), by omega, h₁₁, _, _, marks (j + 1), 7 + 2 * j, rfl, rfl, F₁₁, ⟨lR, ⟨_, rfl⟩, ⟨_, rfl⟩, ⟨_, lN⟩⟩, .inl ⟨j + 1, by omega, by omega, rfl⟩⟩)
        · have h4 : 2 * j + 1 = m := by omega
          have hc' : (respL m)[6 + 2 * j]? = some 120 := by
            rw [show 6 + 2 * j = 5 + m by omega]; exact respL_x
          refine wpAny_allTrue_Or_cons (wpAny_isTrue_Compare1 (Subscript_ (ld F₉.toFr lR (ld F₉.toFr rfl (item_ss (by rw [hlen]; omega) hc' (wpAny_Constant_str ?_))))))
          refine ne_ss (wpAny_truthy_bool ?_)
          rw [if_pos (by decide), if_pos rfl]
          refine wpAny_execs_cons (wpAny_Break ?_)
          dsimp only
          refine hQb _ _ ⟨h₉, _, _, td, rfl, rfl, F₉, ?_⟩
          have : toldL m = marks j := by unfold toldL; rw [if_neg (by omega), List.append_nil, show m / 2 = j by omega]
          rw [this]
          exact lD
      · rw [if_neg (by decide)]
        refine wpAny_execs_nil ?_
        refine wpAny_execs_cons (wpAny_Assign_Name (wpAny_BinOp (ld F₉.toFr lD (ld F₉.toFr rfl (add_ss (by simp [marks]; omega) fun t' k' => stx F₉ ?_)))))
        intro h₁₁ F₁₁ hs₁₁
        dsimp only at F₁₁ ⊢
        have he : marks j ++ [120] = toldL m := by unfold toldL; rw [if_pos (by omega), show m / 2 = j by omega]
        rw [he] at F₁₁
        refine wpAny_execs_nil (hQb _ _ ⟨m + 6 - (6 + 2 * j), by omega, h₁₁, _, _, toldL m, 6 + 2 * j, rfl, rfl, F₁₁, ⟨lR, ⟨_, rfl⟩, ⟨_, rfl⟩, ⟨_, lN⟩⟩, .inr ⟨by omega, rfl⟩⟩)
    · rw [decide_eq_false (by omega), if_neg (by decide)]
      exact wpAny_execs_nil ⟨h₇, tk₇, m₇, td, rfl, rfl, F₇, lD⟩
end Mine

end
section
open PySem PySem.W PyProof.Rows
set_option linter.unusedVariables false
namespace Mine
/-! _law_halves -/
/-- ints in a row -/
inductive Ints : List Value → List Int → Prop
  | nil : Ints [] []
  | cons {n t vs ns} : Ints vs ns → Ints (.int n t :: vs) (n :: ns)
theorem Ints.length {vs : List Value} {ns : List Int} (x : Ints vs ns) : vs.length = ns.length := by
  induction x with
  | nil => rfl
  | cons _ ih => simp [ih]
theorem Ints.snoc {vs : List Value} {ns : List Int} {n : Int} {t : Tok} (x : Ints vs ns) : Ints (vs ++ [.int n t]) (ns ++ [n]) := by
  induction x with
  | nil => exact .cons .nil
  | cons _ ih => exact .cons ih
theorem Ints.get {vs : List Value} {ns : List Int} (x : Ints vs ns) : ∀ {i : Nat} {n : Int}, ns[i]? = some n → ∃ t, vs[i]? = some (.int n t) := by
  induction x with
  | nil => intro i n h; simp at h
  | cons _ ih =>
    rename_i m t vs ns _
    intro i n h
    cases i with
    | zero => simp at h; subst h; exact ⟨t, rfl⟩
    | succ i => simp at h; obtain ⟨t, e⟩ := ih h; exact ⟨t, by simpa using e⟩
theorem Fx.grow {g h : Heap} {L : Addr} {m : Str → Option Value} {muts : List Addr} (F : Fx g L h m muts) (o : Obj) : Fx g L (h.push o) m (h.objs.size :: muts) := by
  refine ⟨F.toFr.push o, fun a ha => ?_, fun a ha => ?_⟩
  · rcases List.mem_cons.mp ha with rfl | ha
    · exact fresh_none F.has
    · exact F.free a ha
  · rcases List.mem_cons.mp ha with rfl | ha
    · exact fun q => Nat.lt_irrefl _ (q ▸ F.ns.lt : h.objs.size < h.objs.size)
    · exact F.apart a ha
theorem Has.less {g h : Heap} {muts sub : List Addr} (H : Has g h muts) (hs : ∀ a ∈ sub, a ∈ muts) : Has g h sub := ⟨H.keep, H.size, fun a ha => H.free a (hs a ha)⟩
theorem newPlain {h : Heap} (vs : Array Value) : PlainL (h.push { cls := .type "list", data := .seq vs }) h.objs.size vs :=
  ⟨_, _, Heap.get?_push_size _ rfl, rfl, rfl, rfl⟩
noncomputable def lastL (r : Nat) : List Nat := (toldL r).drop ((toldL r).length - 1)
theorem told_last : ∀ r, r < 22 → Txt.slice (strL (toldL r)) (some (-1)) none = strL (lastL r) ∧ (lastL r == [120]) = decide (r % 2 = 0) := by decide +kernel
theorem told_rep : ∀ r, r < 22 → Txt.replace (strL (toldL r)) (strL [120]) (strL []) = strL (marks (r / 2)) := by decide +kernel
theorem told_len : ∀ r, r < 22 → (toldL r).length < 100 := by decide +kernel
theorem mul_marks : ∀ n : Nat, n < 22 → (⟨(List.replicate (n : Int).toNat (strL [34]).cps).foldl (· ++ ·) #[]⟩ : Str) = strL (marks n) := by decide +kernel
section
variable {w : World} {A : Around} {E : Value → Shared → Prop} {s : Shared}
theorem mulM {n : Nat} {t u : Tok} {Q : Value → Shared → Prop} (hn : n < 22) (h : ∀ t' k, Q (.str (strL (marks n)) t') { s with toks := k }) : wpAny (model prog w) A (binaryOp .Mult (.str (strL [34]) t) (.int n u)) Q E s := by
  refine P.mul_str ?_ ?_ ?_ ?_
  · simp only [Bool.or_eq_false_iff, decide_eq_false_iff_not]; omega
  · intro h1 h2
    have : (1 : Int) ≤ (2 ^ 63 - 1) / n := by
      apply (Int.le_ediv_iff_mul_le (by omega)).mpr; omega
    show ¬ ((1 : Int) > _)
    omega
  · intro _ _
    show Builtin.Str.tooLong (1 * (n : Int).toNat) = false
    unfold Builtin.Str.tooLong sizeLine
    exact decide_eq_false (by omega)
  · by_cases h0 : n = 0
    · subst h0; rw [if_pos (by omega)]; exact ⟨by decide, h _ _⟩
    · rw [if_neg (by omega)]
      by_cases h1 : n = 1
      · subst h1; rw [if_pos (by decide)]; exact h _ _
      · rw [if_neg (by simp [strL, Str.length]; omega), mul_marks n hn]
        exact ⟨by rw [strL_len]; simp [marks, sizeLine]; omega, h _ _⟩
end
section
variable {w : World} {A : Around} {E : Value → Shared → Prop} {s : Shared} {x : Str} {t : Tok} {value slice : Expr} {Q : Value → Shared → Prop}
theorem slice_sn' {P : Heap → Prop} {i : Int} {ui : Tok} (hk : KeptH P) (hI : P s.heap) (h : ∀ h' t' k, P h' → Q (.str (Txt.slice x (some i) none) t') { s with heap := h', toks := k }) (hsz : x.length ≤ sizeLine)
    (hs : subscripted slice false (.str x t) (.ref s.heap.objs.size) = operate [.ref s.heap.objs.size, .str x t] (getItem (.str x t) (.ref s.heap.objs.size)) := by with_unfolding_all rfl)
    (ht : ∀ r, letTemporaryGo value (.str x t) r = pure () := by intro _; with_unfolding_all rfl) :
    wpAny (model prog w) A (subscriptTail value slice (.str x t) (.ref s.heap.objs.size)) Q E { s with heap := s.heap.push { cls := .type "slice", data := .fields #[.int i ui, .none, .none] } } :=
  tail_of_ItemOn (SBH.sliceItem_sn hk hI h hsz) hs ht
end
noncomputable def nI (l : List Nat) : List Int := l.map fun n : Nat => (n : Int)
structure LocH (m : Str → Option Value) (count r ev : Nat) (D : Addr) : Prop where
  lC : ∃ t, m "count" = some (.int count t)
  lR : ∃ t, m "run" = some (.str (strL (marks r)) t)
  lS : m "sizes" = some (.ref D)
  lE : ∃ t, m "evens" = some (.int ev t)
inductive HaF (g : Heap) (s : Shared) (L D n : Nat) (r : Result) (s' : Shared) : Prop
  | mk (h' : Heap) (tk : Nat) (m' : Str → Option Value) (vs : List Value) (t : Tok) (e0 : r = .ok .next) (e1 : s' = { s with heap := h', toks := tk }) (F : Fx g L h' m' [D]) (p : PlainL h' D vs.toArray) (I : Ints vs (nI (halves n).1)) (lS : m' "sizes" = some (.ref D)) (lE : m' "evens" = some (.int (halves n).2 t))
inductive HaI (g : Heap) (s : Shared) (L D n : Nat) (r : Nat) (s' : Shared) : Prop
  | mk (h' : Heap) (tk : Nat) (m' : Str → Option Value) (vs : List Value) (sz : List Nat) (ev k : Nat) (hr : r < 22) (hl : sz.length ≤ n) (hk : r + 1 ≤ k) (hv : hvs n k r sz ev = halves n) (e1 : s' = { s with heap := h', toks := tk }) (F : Fx g L h' m' [D]) (l : LocH m' n r ev D)
      (p : PlainL h' D vs.toArray) (I : Ints vs (nI sz))
inductive HaM (g : Heap) (s : Shared) (L D n : Nat) (vs : List Value) (r ev : Nat) (tc t : Tok) (f : Flow) (s' : Shared) : Prop
  | mk (h' : Heap) (tk' : Nat) (m' : Str → Option Value) (te' : Tok) (e0 : f = .next) (e1 : s' = { s with heap := h', toks := tk' + 1 }) (F : Fx g L h' m' [D]) (p : PlainL h' D vs.toArray) (lC : m' "count" = some (.int n tc)) (lS : m' "sizes" = some (.ref D)) (lT : m' "told" = some (.str (strL (toldL r)) t))
      (lE : m' "evens" = some (.int (ev : Nat) te'))
set_option maxRecDepth 100000 in
set_option maxHeartbeats 4000000 in
theorem halves1 {w : World} {mg mb : Str → Option Value} {A : Around} {E Q : Value → Shared → Prop} {g : Heap} {s : Shared} {n : Nat} {t : Tok}
    (hd : A.depth + 8 < recursionLimit) (S : Sta mg mb g) (HS : Has g s.heap []) (hn : n < 22)
    (h : ∀ h' tk T D vs t', Has g h' [] → h'.get? T = some { cls := .type "tuple", data := .seq #[.ref D, .int (halves n).2 t'] } → PlainL h' D vs.toArray → Ints vs (nI (halves n).1) → g.get? T = none → g.get? D = none → Q (.ref T) { s with heap := h', toks := tk }) :
    wpAny (model prog w) A (call (.ref 88) [.int n t]) Q E s := by
  refine wpAny_call ?_
  obtain ⟨o, pm, cd, doc, eo, ed, ec⟩ := S.f_halves
  refine enter (by omega) HS (by simp) eo ed S.lim ec (binds := [("count", .int n t)]) (by rfl) (locs rfl) ?_
  intro L h₁ tk F hk hL
  refine wpAny_execs_cons (wpAny_Assign_Name (wpAny_BinOp (wpAny_Constant_str (ld F.toFr rfl ?_))))
  rw [lit_ss "\"" [34] (by decide +kernel)]
  refine mulM hn fun t₂ k₂ => stx F ?_
  intro h₂ F₂ hs₂
  dsimp only at F₂ ⊢
  refine wpAny_execs_cons (wpAny_Assign_Name (List_ (args_nil (wpAny_newObj_type ?_ (by show (0 : Nat) ≤ sizeLine; decide)))))
  generalize hD : h₂.objs.size = D
  have F₃ := F₂.grow { cls := .type "list", data := .seq #[] }
  have P₃ := newPlain (h := h₂) #[]
  rw [hD] at F₃ P₃
  refine stx F₃ ?_
  intro h₄ F₄ hs₄
  dsimp only at F₄ ⊢
  have P₄ := pl_same P₃ hs₄ (F₃.apart D (by repeat (first | exact .head _ | refine .tail _ ?_)))
  refine wpAny_execs_cons (wpAny_Assign_Name (wpAny_Constant_int (stx F₄ ?_)))
  intro h₅ F₅ hs₅
  dsimp only at F₅ ⊢
  have P₅ := pl_same P₄ hs₅ (F₄.apart D (by repeat (first | exact .head _ | refine .tail _ ?_)))
  refine wpAny_execs_cons (wpAny_While (codeAny_mono (R := HaF g s L D n)
    (codeAny_whileLoop (HaI g s L D n)
      ?turn n ?init) ?fin))
  case init => exact ⟨h₅, _, _, [], [], 0, n + 1, hn, by simp, by omega, rfl, rfl, F₅, ⟨⟨_, rfl⟩, ⟨_, rfl⟩, rfl, ⟨_, rfl⟩⟩, P₅, .nil⟩
  case fin =>
    rintro r s' ⟨h₇, tk₇, m₇, vs, t₇, rfl, rfl, F₇, P₇, I₇, lS, lE⟩
    dsimp only
    refine wpAny_execs_cons (wpAny_Return_some (Tuple_ (args_cons (ld F₇.toFr lS (args_cons (ld F₇.toFr lE (args_nil (wpAny_newObj_type ?_ (by show (2 : Nat) ≤ sizeLine; decide)))))))))
    have F₈ := F₇.push { cls := .type "tuple", data := .seq #[.ref D, .int (halves n).2 t₇] }
    exact h _ _ _ D vs t₇ (F₈.has.less (by repeat' (first | exact fa0 | exact .head _ | refine fa1 ?_ ?_ | refine .tail _ ?_))) (Heap.get?_push_size _ rfl) (pl_keep P₇ fun o e => Heap.get?_push_of_some _ e) I₇ (fresh_none F₇.has) (F₇.free D (by repeat (first | exact .head _ | refine .tail _ ?_)))
  case turn =>
    intro r s' hI9
    refine hideQ fun Qa Ea hQa => ?_
    obtain ⟨h₇, tk₇, m₇, vs, sz, ev, k, hr, hln, hk', hv, rfl, F₇, ⟨⟨tc, lC⟩, ⟨tr, lR⟩, lS, ⟨te, lE⟩⟩, P₇, I₇⟩ := hI9
    have hsz : vs.length = sz.length := by rw [I₇.length]; simp [nI]
    refine wpAny_isTrue_BoolOp (wpAny_allTrue_And_cons (wpAny_isTrue_Compare1 (ld F₇.toFr lR (wpAny_Constant_str ?_))))
    rw [lit_ss "" [] (by decide +kernel)]
    refine ne_ss (wpAny_truthy_bool ?_)
    obtain ⟨k, rfl⟩ : ∃ k', k = k' + 1 := ⟨k - 1, by omega⟩
    by_cases h0 : r = 0
    · subst h0
      rw [if_neg (by decide)]
      refine hQa _ _ ?_
      rw [if_neg (by decide)]
      have e : hvs n (k + 1) 0 sz ev = (sz, ev) := by simp [hvs]
      rw [e] at hv
      exact wpAny_execs_nil ⟨h₇, _, m₇, vs, te, rfl, rfl, F₇, P₇, by rw [← hv]; exact I₇, lS, by rw [← hv]; exact lE⟩
    rw [if_pos (by cases r with | zero => exact absurd rfl h0 | succ r => rfl)]
    refine wpAny_allTrue_And_cons (wpAny_isTrue_Compare1 (Call_ (ld_builtin_at F₇.toFr S.G S.b_len.1 S.B S.b_len.2 (PyProof.Rows.callWith_builtin1 (args_cons (ld F₇.toFr lS (args_nil (Calls.call_len_list P₇.isList ?_ (ld F₇.toFr lC (lt_int (wpAny_truthy_bool ?_)))))))))))
    · simp [hsz]; omega
    by_cases hl : ¬ sz.length < n
    · rw [decide_eq_false (by simp [hsz]; omega), if_neg (by decide)]
      refine hQa _ _ ?_
      rw [if_neg (by decide)]
      have e : hvs n (k + 1) r sz ev = (sz, ev) := by simp [hvs, hl]
      rw [e] at hv
      exact wpAny_execs_nil ⟨h₇, _, m₇, vs, te, rfl, rfl, F₇, P₇, by rw [← hv]; exact I₇, lS, by rw [← hv]; exact lE⟩
    have hl := Decidable.of_not_not hl
    rw [decide_eq_true (by simp [hsz]; omega), if_pos rfl]
    refine wpAny_allTrue_And_nil (hQa _ _ ?_)
    rw [if_pos rfl]
    refine hideQ fun Qb Eb hQb => ?_
    have e : hvs n (k + 1) r sz ev = hvs n k (r / 2) (sz ++ [r / 2]) (if r % 2 = 0 ∧ ev = sz.length then ev + 1 else ev) := by simp [hvs, h0, hl]
    rw [e] at hv
    clear e
    obtain ⟨o', pm', cd', doc', e', d', c'⟩ := S.f_parse
    refine wpAny_execs_cons (wpAny_Assign_Name (Call_ (ld_global_at F₇.toFr S.G S.g_parse (callWith_def d' (args_cons (wpAny_BinOp (wpAny_BinOp (wpAny_Constant_str (ld F₇.toFr lR ?_)))))))))
    rw [lit_ss "257 \"" [50, 53, 55, 32, 34] (by decide +kernel)]
    refine add_ss (by simp [marks]; omega) fun t₈ k₈ => wpAny_Constant_str ?_
    rw [lit_ss "x" [120] (by decide +kernel)]
    refine add_ss (by simp [marks]; omega) fun t₉ k₉ => args_nil ⟨F₇.keep _ _ e', ?_⟩
    refine parse1 (m := r) (g := hideAll h₇ []) (by rw [depth_deeper]; omega) (S.keeps (has_sub F₇.has (by repeat' (first | exact fa0 | exact .head _ | refine fa1 ?_ ?_ | refine .tail _ ?_)))) (has_hide h₇ []) hr ?_
    intro h₈ tk₈ t₁₀ H₈
    have F₈ := F₇.back (sub := []) (by repeat' (first | exact fa0 | exact .head _ | refine fa1 ?_ ?_ | refine .tail _ ?_)) H₈
    have P₈ : PlainL h₈ D vs.toArray := pl_back P₇ H₈ (by simp)
    refine stx F₈ ?_
    intro h₉ F₉ hs₉
    dsimp only at F₉ ⊢
    have P₉ := pl_same P₈ hs₉ (F₈.apart D (by repeat (first | exact .head _ | refine .tail _ ?_)))
    refine wpAny_execs_cons (wpAny_mono (Q := HaM g s L D n vs r (if r % 2 = 0 ∧ ev = sz.length then ev + 1 else ev) tc t₁₀) ?_ ?_ fun _ _ x => x)
    · refine wpAny_If (wpAny_isTrue_BoolOp (wpAny_allTrue_And_cons (wpAny_isTrue_Compare1 (Subscript_ (ld F₉.toFr rfl (wpAny_Slice (part_some (wpAny_UnaryOp (wpAny_Constant_int (P.neg_int (part_none (part_none (slice_sn' (P := fun h' => Fx g L h' _ [D] ∧ PlainL h' D vs.toArray) (fun _ ob p => ⟨p.1.push ob, pl_keep p.2 fun o e => Heap.get?_push_of_some _ e⟩) ⟨F₉, P₉⟩ ?_ (by have := told_len r hr; rw [strL_len]; simp [sizeLine]; omega))))))))))))))
      rintro h₁₀ t₁₁ k₁₀ ⟨F₁₀, P₁₀⟩
      rw [(told_last r hr).1]
      refine wpAny_Constant_str ?_
      refine eq_ss (wpAny_truthy_bool ?_)
      rw [(told_last r hr).2]
      dsimp only
      by_cases h2 : r % 2 = 0
      · rw [decide_eq_true h2, if_pos rfl]
        refine wpAny_allTrue_And_cons (wpAny_isTrue_Compare1 (ld F₁₀.toFr lE (Call_ (ld_builtin_at F₁₀.toFr S.G S.b_len.1 S.B S.b_len.2 (PyProof.Rows.callWith_builtin1 (args_cons (ld F₁₀.toFr lS (args_nil (Calls.call_len_list P₁₀.isList (by simp [hsz]; omega) (eq_int (wpAny_truthy_bool ?_)))))))))))
        by_cases h3 : ev = sz.length
        · rw [if_pos (by simp [hsz, h3]), if_pos ⟨h2, h3⟩]
          refine wpAny_allTrue_And_nil ?_
          rw [if_pos rfl]
          refine wpAny_execs_cons (wpAny_AugAssign_Name (ldn F₁₀.toFr lE (wpAny_Constant_int (iadd_int (stx F₁₀ ?_)))))
          intro h₁₁ F₁₁ hs₁₁
          dsimp only at F₁₁ ⊢
          exact wpAny_execs_nil ⟨h₁₁, _, _, _, rfl, rfl, F₁₁, pl_same P₁₀ hs₁₁ (F₁₀.apart D (by repeat (first | exact .head _ | refine .tail _ ?_))), lC, lS, rfl, rfl⟩
        · rw [if_neg (by simp [hsz]; omega), if_neg (by decide), if_neg (by omega)]
          exact wpAny_execs_nil ⟨h₁₀, _, _, te, rfl, rfl, F₁₀, P₁₀, lC, lS, rfl, lE⟩
      · rw [decide_eq_false h2, if_neg (by decide), if_neg (by decide), if_neg (by omega)]
        exact wpAny_execs_nil ⟨h₁₀, _, _, te, rfl, rfl, F₁₀, P₁₀, lC, lS, rfl, lE⟩
    rintro f s' ⟨h₁₀, tk₁₀, m₁₀, te', rfl, rfl, F₁₀, P₁₀, lC', lS', lT', lE'⟩
    dsimp only
    refine wpAny_execs_cons (wpAny_Assign_Name (Call_method2 rfl rfl rfl (ld F₁₀.toFr lT' ⟨"str", "str.replace", PySem.F.plainAttrs_str, PySem.F.slot_str_replace, PySem.F.type_str_replace, typeIs_str _ _ _, (fun _ e => nomatch e), Calls.callWith_builtin rfl (Calls.evalArgs_plain (Calls.spliced_cons (wpAny_Constant_str (Calls.spliced_cons (wpAny_Constant_str (Calls.spliced_nil ?_))))))⟩)))
    simp only [List.cons_append, List.nil_append]
    refine SC.replaceW (Nat.succ_ne_zero _) (Nat.succ_ne_zero _) (Nat.ne_of_lt (Nat.lt_succ_self _)) (by decide) (by have := told_len r hr; rw [strL_len]; omega) (by decide) fun t₁₂ k₁₂ => ?_
    rw [lit_ss "" [] (by decide +kernel), told_rep r hr]
    refine stx F₁₀ ?_
    intro h₁₁ F₁₁ hs₁₁
    dsimp only at F₁₁ ⊢
    have P₁₁ := pl_same P₁₀ hs₁₁ (F₁₀.apart D (by repeat (first | exact .head _ | refine .tail _ ?_)))
    refine wpAny_execs_cons (wpAny_Expr (wpAny_Call_append rfl rfl rfl rfl (ld F₁₁.toFr lS' ⟨D, _, rfl, P₁₁, Call_ (ld_builtin_at F₁₁.toFr S.G S.b_len.1 S.B S.b_len.2 (PyProof.Rows.callWith_builtin1 (args_cons (ld F₁₁.toFr rfl (args_nil (P.len_str (by rw [strL_len]; simp [marks]; omega) (list_append_plainL P₁₁ ?_ (by simp [hsz, sizeLine]; omega))))))))⟩)))
    intro h₁₂ P₁₂ hs₁₂
    have F₁₂ := F₁₁.turn (a := D) (by repeat (first | exact .head _ | refine .tail _ ?_)) hs₁₂
    dsimp only
    rw [List.push_toArray, strL_len, show (marks (r / 2)).length = r / 2 by simp [marks]] at P₁₂
    refine wpAny_execs_nil (hQb _ _ ⟨r / 2, by omega, h₁₂, _, _, _, sz ++ [r / 2], _, k, by omega, by simp; omega, by omega, hv, rfl, F₁₂, ⟨⟨_, lC'⟩, ⟨_, rfl⟩, lS', ⟨_, lE'⟩⟩, P₁₂, ?_⟩)
    rw [show nI (sz ++ [r / 2]) = nI sz ++ [((r / 2 : Nat) : Int)] by simp [nI]]
    exact I₇.snoc
end Mine

end
section
open PySem PySem.W PySem.W.X PyProof.Rows Builtin
set_option linter.unusedVariables false
namespace Mine
set_option maxRecDepth 100000
/-! the class statement: closed facts, small calls -/
theorem tn_turn : notOverATurnedClass [.type "object"] = pure () := by kernel_rfl
theorem tn_ext : extendedBase [.type "object"] = pure (.type "object") := by kernel_rfl
theorem tn_lin : linearize [.type "object"] mroOf = pure [.type "object"] := by kernel_rfl
theorem tn_hook : mroHook? (.type "type") = pure none := by kernel_rfl
theorem tn_made : Bind.madeBy (.type "object") = pure (some "object.__new__") := by kernel_rfl
theorem tn_weak : Slots.givesWeak (.type "object") = pure false := by kernel_rfl
theorem tn_best : Slots.bestBase [.type "object"] = pure (.type "object") := by kernel_rfl
theorem tn_dict : Slots.givesDict (.type "object") = pure false := by kernel_rfl
theorem tn_var : Slots.varSize (.type "object") = pure false := by kernel_rfl
theorem tn_sub : isSubtype (.type "type") (.type "type") = pure true := by kernel_rfl
theorem tn_subT : isSubtype (.type "tuple") (.type "tuple") = pure true := by kernel_rfl
theorem tn_subD : isSubtype (.type "dict") (.type "dict") = pure true := by kernel_rfl
theorem tn_ty : typeOf (.type "object") = pure (.type "type") := by kernel_rfl
theorem tn_isT : isType (.type "object") = pure true := by kernel_rfl
theorem tn_note (a : Addr) : noteSubclassOfBuiltin "object" a = pure () := by kernel_rfl
theorem tn_setn : typeLookup (.type "function") "__set_name__" = pure none := by kernel_rfl
section
variable {w : World} {A : Around} {E : Value → Shared → Prop} {s : Shared}
theorem of_pu {α : Type} {t : Sem α} {a : α} {Q : α → Shared → Prop} (e : t = pure a) (h : Q a s) : wpAny (model prog w) A t Q E s := by rw [e]; exact wpAny_pure h
theorem typeOf_ref {a : Addr} {o : Obj} {Q : Value → Shared → Prop} (e : s.heap.get? a = some o) (h : Q o.cls s) : wpAny (model prog w) A (typeOf (.ref a)) Q E s :=
  wpAny_bind (m := loadPart a _) (wpAny_loadPart e (wpAny_pure h))
theorem nsGet_at {N : Addr} {name : Str} {o : Obj} {r : Option Value} {Q : Option Value → Shared → Prop} (e : s.heap.get? N = some o) (l : lookIn name o = some r) (h : Q r s) : wpAny (model prog w) A (nsGet N name) Q E s := by
  unfold nsGet
  exact wpAny_bind (wpAny_loadPart e (of_pu (nsLook_of l) h))
theorem ite_no {α : Type} {c : Prop} [Decidable c] {t u : Sem α} {Q : α → Shared → Prop} (hc : ¬ c) (h : wpAny (model prog w) A u Q E s) : wpAny (model prog w) A (if c then t else u) Q E s := by rw [if_neg hc]; exact h
end
theorem ty_isc : typeOf (.builtin "object.__init_subclass__") = pure (.type "classmethod_descriptor") := by kernel_rfl
theorem tl_get : typeLookup (.type "classmethod_descriptor") "__get__" = pure (some (.builtin "classmethod_descriptor.__get__")) := by kernel_rfl
theorem co_isc : classOwn (.type "object") "__init_subclass__" = pure (some (.builtin "object.__init_subclass__")) := by kernel_rfl
noncomputable def kCd (C ns : Addr) : ClassData := { name := "K", bases := [.type "object"], mro := [.ref C, .type "object"], ns := ns, qualname := "cmp_to_key.<locals>.K", hasDict := false, slotNames := ["obj"] }
noncomputable def kSl (T : Addr) (tn tq : Tok) : Array (Option Value) := #[some (.ref T), none, some (.str "K" tn), some (.str "cmp_to_key.<locals>.K" tq), some (.builtin "object.__new__"), some (.bool false)]
set_option maxHeartbeats 0
local macro_rules | `(tactic| x_close) => `(tactic| first | assumption | (apply_assumption; all_goals assumption))
theorem cmdget {w : World} {h : Heap} {g d t os} {C ns : Addr} {sl : Array (Option Value)} {Q E : Value → Shared → Prop} {A : Around}
  (eC : h.get? C = some ⟨.type "type", none, .cls (kCd C ns), sl⟩)
  (hq : ∀ a h', Mem h h' [] [(a, { cls := .type "builtin_function_or_method", data := .fields #[.builtin "object.__init_subclass__", .ref C] })] → Q (.ref a) ⟨h', g, d, t, os⟩) :
  wpAny (model prog w) A (call (.builtin "classmethod_descriptor.__get__") [.builtin "object.__init_subclass__", .none, .ref C]) Q E ⟨h, g, d, t, os⟩ := by
  x_run
theorem iscall {w : World} {h : Heap} {g d t os} {C ns a T : Addr} {tn tq : Tok} {Q E : Value → Shared → Prop} {A : Around}
  (eC : h.get? C = some ⟨.type "type", none, .cls (kCd C ns), kSl T tn tq⟩)
  (ea : h.get? a = some { cls := .type "builtin_function_or_method", data := .fields #[.builtin "object.__init_subclass__", .ref C] })
  (hq : Q .none ⟨h, g, d, t, os⟩) :
  wpAny (model prog w) A (call (.ref a) []) Q E ⟨h, g, d, t, os⟩ := by
  x_run
theorem col1 {w : World} {h : Heap} {g d t os} {sl : Addr} {ts : Tok} {Q E : Value → Shared → Prop} {A : Around}
  (eS : h.get? sl = some { cls := .type "list", data := .seq #[.str "obj" ts] })
  (hq : ∀ a h', Mem h h' [] [(a, { cls := .type "list", data := .seq #[.str "obj" ts] 1 })] → Q (.ref a) ⟨h', g, d, t, os⟩) :
  wpAny (model prog w) A (runValue (.builtin "proto.collect" ⟨[.ref sl], []⟩)) Q E ⟨h, g, d, t, os⟩ := by
  x_run
theorem sup1 {w : World} {h : Heap} {g d t os} {C ns : Addr} {sl : Array (Option Value)} {Q E : Value → Shared → Prop} {A : Around}
  (eC : h.get? C = some ⟨.type "type", none, .cls (kCd C ns), sl⟩)
  (hq : ∀ a h', Mem h h' [] [(a, { cls := .type "super", data := .fields #[.ref C, .ref C, .ref C] })] → Q (.ref a) ⟨h', g, d, t, os⟩) :
  wpAny (model prog w) A (call (.type "super") [.ref C, .ref C]) Q E ⟨h, g, d, t, os⟩ := by
  x_run
set_option maxHeartbeats 1000000 in
theorem supget {w : World} {A : Around} {E : Value → Shared → Prop} {Q : PySem.Fin → Shared → Prop} {s : Shared} {S C ns : Addr} {t : Tok} {sl : Array (Option Value)} {o2 : Obj}
   (eS : s.heap.get? S = some { cls := .type "super", data := .fields #[.ref C, .ref C, .ref C] })
   (eC : s.heap.get? C = some ⟨.type "type", none, .cls (kCd C ns), sl⟩)
   (hq : ∀ a h', Mem s.heap h' [] [(a, { cls := .type "builtin_function_or_method", data := .fields #[.builtin "object.__init_subclass__", .ref C] })] → Q (.done (.ret (.ref a))) { s with heap := h' })
   (e2 : s.heap.get? cStatics = some o2) (l2 : lookIn "thirdparty.any" o2 = some none)
   : wpAny (model prog w) A (Builtin.«super.__getattribute__» ⟨[.ref S, .str "__init_subclass__" t], []⟩) Q E s := by
  have hL : List.drop 1 (List.dropWhile (fun x => x != #[Value.ref C, Value.ref C, Value.ref C][0]) (kCd C ns).mro) = [.type "object"] := by simp [kCd]
  have hI : (if (#[Value.ref C, Value.ref C, Value.ref C][1] == #[Value.ref C, Value.ref C, Value.ref C][2]) = true then Value.none else #[Value.ref C, Value.ref C, Value.ref C][1]) = .none := by simp
  obtain ⟨h, g, d, tk, os⟩ := s
  iterate 150 try first
    | ((with_reducible show wpAny _ _ (call (.builtin "classmethod_descriptor.__get__") _) _ _ _); refine cmdget eC ?_; intro a h' D)
    | ((with_reducible show wpAny _ _ (forIn _ _ _) _ _ _); rw [hL, hI])
    | ((with_reducible show wpAny _ _ (typeOf (.builtin _)) _ _ _); refine of_pu ty_isc ?_)
    | ((with_reducible show wpAny _ _ (typeLookup _ _) _ _ _); refine of_pu tl_get ?_)
    | ((with_reducible show wpAny _ _ (classOwn _ _) _ _ _); refine of_pu co_isc ?_)
    | with_reducible refine nd_pure ?_
    | with_reducible refine nd_load eS ?_
    | with_reducible refine nd_load eC ?_
    | with_reducible refine nd_load e2 ?_
    | with_reducible refine nd_rule ?_
    | with_reducible refine nd_point ?_
    | ((with_reducible show wpAny _ _ (nsGet cStatics _) _ _ _); refine nsGet_at e2 l2 ?_)
    | lk
  exact hq _ _ (by assumption)
end Mine

end
section
open PySem PySem.W PySem.W.X PyProof.Rows Builtin
set_option linter.unusedVariables false
namespace Mine
set_option maxRecDepth 100000
theorem ite_b0 {α : Type} {w : World} {A : Around} {E : Value → Shared → Prop} {s : Shared} {b : Bool} {t u : Sem α} {Q : α → Shared → Prop} (hb : b = false) (h : wpAny (model prog w) A u Q E s) : wpAny (model prog w) A (if b = true then t else u) Q E s := by subst hb; exact h
theorem ite_b1 {α : Type} {w : World} {A : Around} {E : Value → Shared → Prop} {s : Shared} {b : Bool} {t u : Sem α} {Q : α → Shared → Prop} (hb : b = true) (h : wpAny (model prog w) A t Q E s) : wpAny (model prog w) A (if b = true then t else u) Q E s := by subst hb; exact h
theorem tn_snames : Slots.slotNamesOf (.type "object") = pure [] := by kernel_rfl
noncomputable def nsEs (hs : Nat → Int) (tk : Nat → Tok) (mo qu fi : Value) (sl : Addr) (f : Nat → Addr) (st : Addr) : Array DictEntry :=
  #[⟨hs 0, .str "__module__" (tk 0), mo⟩, ⟨hs 1, .str "__qualname__" (tk 1), qu⟩, ⟨hs 2, .str "__firstlineno__" (tk 2), fi⟩, ⟨hs 3, .str "__slots__" (tk 3), .ref sl⟩,
    ⟨hs 4, .str "__init__" (tk 4), .ref (f 0)⟩, ⟨hs 5, .str "__lt__" (tk 5), .ref (f 1)⟩, ⟨hs 6, .str "__gt__" (tk 6), .ref (f 2)⟩, ⟨hs 7, .str "__eq__" (tk 7), .ref (f 3)⟩, ⟨hs 8, .str "__le__" (tk 8), .ref (f 4)⟩, ⟨hs 9, .str "__ge__" (tk 9), .ref (f 5)⟩,
    ⟨hs 10, .str "__hash__" (tk 10), .none⟩, ⟨hs 11, .str "__static_attributes__" (tk 11), .ref st⟩]
set_option maxHeartbeats 1000000 in
theorem slotsRead {w : World} {A : Around} {E : Value → Shared → Prop} {Q : Slots.Plan → Shared → Prop} {s : Shared} {sl st : Addr} {f : Nat → Addr} {hs : Nat → Int} {tk : Nat → Tok} {mo qu fi : Value} {ts : Tok}
   (eS : s.heap.get? sl = some { cls := .type "list", data := .seq #[.str "obj" ts] })
   (hq : ∀ a h', Mem s.heap h' [] [(a, { cls := .type "list", data := .seq #[.str "obj" ts] 1 })] → Q { names := ["obj"], dict := false, weak := false, inherited := [] } { s with heap := h' })
   : wpAny (model prog w) A (Slots.read "K" [.type "object"] (nsEs hs tk mo qu fi sl f st)) Q E s := by
  obtain ⟨h, g, d, k, os⟩ := s
  have hid : Slots.isIdentifier (Str.ofString "obj") = some true := by decide +kernel
  iterate 260 try first
    | with_reducible refine nd_pure ?_
    | with_reducible refine nd_load eS ?_
    | with_reducible refine nd_rule ?_
    | with_reducible refine nd_point ?_
    | ((with_reducible show wpAny _ _ (Slots.bestBase _) _ _ _); refine of_pu tn_best ?_)
    | ((with_reducible show wpAny _ _ (Slots.slotNamesOf _) _ _ _); refine of_pu tn_snames ?_)
    | ((with_reducible show wpAny _ _ (Slots.givesDict _) _ _ _); refine of_pu tn_dict ?_)
    | ((with_reducible show wpAny _ _ (Slots.givesWeak _) _ _ _); refine of_pu tn_weak ?_)
    | ((with_reducible show wpAny _ _ (Slots.varSize _) _ _ _); refine of_pu tn_var ?_)
    | ((with_reducible show wpAny _ _ (runValue (.builtin "proto.collect" _)) _ _ _); refine col1 eS ?_; intro a h' D; have eL := D.at 0 _ _ rfl)
    | with_reducible refine nd_load (by assumption) ?_
    | lk
    | rw [hid]
    | refine ite_b0 (by kernel_rfl) ?_
    | refine ite_b1 (by kernel_rfl) ?_
  refine Eq.mp (congrArg (fun p => Q p _) ?_) (hq _ _ (by assumption))
  kernel_rfl
end Mine

end
section
open PySem PySem.W PySem.W.X PyProof.Rows Builtin
set_option linter.unusedVariables false
namespace Mine
set_option maxRecDepth 100000
theorem slot_sup : Slot "super" "__getattribute__" "super.__getattribute__" :=
  Slot.of (owner := "super") (n := "__getattribute__") (by rw [typeLookup_type, builtinLookup_eq_fast]; kernel_rfl) (by decide +kernel) (by decide +kernel) (by decide +kernel) (.inl (by decide +kernel)) (by rw [isSubtype_type]; kernel_rfl)
theorem entry_sup : entryFor table "super.__getattribute__" = some Builtin.«super.__getattribute__» := entryFor_of_tree (by kernel_rfl)
theorem args_sup (a b : Value) : argsOk "super.__getattribute__" ⟨[a, b], []⟩ := by
  unfold argsOk; kernel_rfl
/-- super().__init_subclass__ -/
theorem getSup {w : World} {A : Around} {E : Value → Shared → Prop} {Q : Value → Shared → Prop} {s : Shared} {S C ns : Addr} {sl : Array (Option Value)} {o2 : Obj}
   (eS : s.heap.get? S = some { cls := .type "super", data := .fields #[.ref C, .ref C, .ref C] })
   (eC : s.heap.get? C = some ⟨.type "type", none, .cls (kCd C ns), sl⟩)
   (e2 : s.heap.get? cStatics = some o2) (l2 : lookIn "thirdparty.any" o2 = some none)
   (hq : ∀ a h', Mem s.heap h' [] [(a, { cls := .type "builtin_function_or_method", data := .fields #[.builtin "object.__init_subclass__", .ref C] })] → Q (.ref a) { s with heap := h', toks := s.toks + 1 })
   : wpAny (model prog w) A (getAttr (.ref S) "__init_subclass__") Q E s := by
  unfold getAttr getAttrBy
  refine wpAny_bind (wpAny_mkText (wpAny_holding (wpAny_bind (typeOf_ref eS ?_))))
  refine wpAny_bind (of_pu slot_sup.lookup ?_)
  show wpAny _ _ (getAttrByItsOwn _ _ _ _ _ _) _ _ _
  unfold getAttrByItsOwn
  refine wpAny_bind (of_pu (a := none) rfl ?_)
  refine wpAny_bind (wpAny_attempt (wpAny_holding ?_))
  show wpAny _ _ (boundAndCalled _ _ _) _ _ _
  unfold boundAndCalled
  refine wpAny_bind (of_pu (slot_sup.bind _) ?_)
  refine wpAny_call (codeAny_call_builtin slot_sup.plain entry_sup (slot_sup.check _ _ _ _ _ _ _ _ (show Shared.TypeIs _ (.ref S) "super" from ⟨_, eS, rfl⟩) (args_sup _ _) ?_))
  refine supget (s := { s with toks := s.toks + 1 }) eS eC ?_ e2 l2
  intro a h' D
  exact wpAny_pure (hq a h' D)
end Mine

end
section
open PySem PySem.W PySem.W.X PyProof.Rows Builtin
set_option linter.unusedVariables false
namespace Mine
set_option maxRecDepth 100000
section
variable {w : World} {A : Around} {E : Value → Shared → Prop} {s : Shared}
theorem inst_ref {a : Addr} {o : Obj} {T : Value} {b : Bool} {Q : Bool → Shared → Prop} (e : s.heap.get? a = some o) (hs : isSubtype o.cls T = pure b) (h : Q b s) : wpAny (model prog w) A (isInstance (.ref a) T) Q E s := by
  unfold isInstance
  exact wpAny_bind (typeOf_ref e (of_pu hs h))
theorem special_ref {a : Addr} {o : Obj} {name : Str} {r : Option Value} {Q : Option Value → Shared → Prop} (e : s.heap.get? a = some o) (hs : typeLookup o.cls name = pure r) (h : Q r s) : wpAny (model prog w) A (specialOf (.ref a) name) Q E s := by
  unfold specialOf
  exact wpAny_bind (typeOf_ref e (of_pu hs h))
end
/-! steps that keep a ledger of new objects -/
section
variable {α : Type} {w : World} {A : Around} {E : Value → Shared → Prop} {h₀ h : Heap} {chg news : List (Addr × Obj)} {g : Array GenState} {d : Drawn} {t : Nat} {os : OsState}
theorem m_ld (j : Nat) {a : Addr} {o : Obj} {p : Option Value} {k : Obj → Sem α} {Q : α → Shared → Prop} (D : Mem h₀ h chg news) (hi : news[j]? = some (a, o)) (x : wpAny (model prog w) A (k o) Q E ⟨h, g, d, t, os⟩) : wpAny (model prog w) A (.load a p k) Q E ⟨h, g, d, t, os⟩ :=
  nd_load (D.at j a o hi) x
theorem m_ldO {a : Addr} {o : Obj} {p : Option Value} {k : Obj → Sem α} {Q : α → Shared → Prop} (D : Mem h₀ h [] news) (e : h₀.get? a = some o) (x : wpAny (model prog w) A (k o) Q E ⟨h, g, d, t, os⟩) : wpAny (model prog w) A (.load a p k) Q E ⟨h, g, d, t, os⟩ :=
  nd_load (D.keep a o e (by simp [away])) x
theorem m_al {o : Obj} {k : Addr → Sem α} {Q : α → Shared → Prop} (D : Mem h₀ h chg news) (hf : o.isFreed = false) (x : ∀ a h', Mem h₀ h' chg ((a, o) :: news) → wpAny (model prog w) A (k a) Q E ⟨h', g, d, t, os⟩) : wpAny (model prog w) A (.alloc o k) Q E ⟨h, g, d, t, os⟩ :=
  nd_alloc (x _ _ (D.alloc hf))
theorem m_alloc {o : Obj} {Q : Addr → Shared → Prop} (D : Mem h₀ h chg news) (hf : o.isFreed = false) (x : ∀ a h', Mem h₀ h' chg ((a, o) :: news) → Q a ⟨h', g, d, t, os⟩) : wpAny (model prog w) A (alloc o) Q E ⟨h, g, d, t, os⟩ :=
  wpAny_alloc (x _ _ (D.alloc hf))
theorem m_slot (j : Nat) {a : Addr} {o : Obj} {i : Nat} {v : Option Value} {Q : Unit → Shared → Prop} (D : Mem h₀ h chg news) (hi : news[j]? = some (a, o)) (hl : i < sizeLine) (hf : o.isFreed = false)
    (x : ∀ h', Mem h₀ h' chg (news.set j (a, { o with slots := (o.slots ++ Array.replicate (i + 1 - o.slots.size) none).setIfInBounds i v })) → Q () ⟨h', g, d, t, os⟩) : wpAny (model prog w) A (setSlotAt a i v) Q E ⟨h, g, d, t, os⟩ := by
  unfold setSlotAt
  rw [if_neg (by omega)]
  exact wpAny_updatePart (D.at j a o hi) (x _ (D.update hi (by cases o with | mk c dd dt sl => cases dt <;> first | rfl | exact hf)))
theorem m_nsGet (j : Nat) {a : Addr} {o : Obj} {name : Str} (r : Option Value) {Q : Option Value → Shared → Prop} (D : Mem h₀ h chg news) (hi : news[j]? = some (a, o)) (l : lookIn name o = some r) (x : Q r ⟨h, g, d, t, os⟩) : wpAny (model prog w) A (nsGet a name) Q E ⟨h, g, d, t, os⟩ :=
  nsGet_at (D.at j a o hi) l x
theorem m_slotAt (j : Nat) {a : Addr} {o : Obj} {i : Nat} (r : Option Value) {Q : Option Value → Shared → Prop} (D : Mem h₀ h chg news) (hi : news[j]? = some (a, o)) (l : (o.slots[i]?).join = r) (x : Q r ⟨h, g, d, t, os⟩) : wpAny (model prog w) A (slotAt a i) Q E ⟨h, g, d, t, os⟩ := by
  unfold slotAt
  subst l
  exact wpAny_bind (wpAny_loadPart (D.at j a o hi) (wpAny_pure x))
theorem m_nsDel (j : Nat) {a : Addr} {o : Obj} {name : Str} {Q : Bool → Shared → Prop} (D : Mem h₀ h chg news) (hi : news[j]? = some (a, o)) (l : nsHas name o = pure true) (hf : (o.dropName name).isFreed = false)
    (x : ∀ h', Mem h₀ h' chg (news.set j (a, o.dropName name)) → Q true ⟨h', g, d, t, os⟩) : wpAny (model prog w) A (nsDel a name) Q E ⟨h, g, d, t, os⟩ := by
  unfold nsDel
  refine wpAny_bind (wpAny_loadPart (D.at j a o hi) (wpAny_bind (of_pu l ?_)))
  rw [if_pos rfl]
  exact wpAny_bind (wpAny_updatePart (D.at j a o hi) (wpAny_pure (x _ (D.update hi hf))))
theorem m_updCls (j : Nat) {a : Addr} {o : Obj} {c : ClassData} {f : ClassData → ClassData} {Q : Unit → Shared → Prop} (D : Mem h₀ h chg news) (hi : news[j]? = some (a, o)) (hc : o.data = .cls c) (hp : (o.mapCls f).data.pastItsLine = none)
    (x : ∀ h', Mem h₀ h' chg (news.set j (a, o.mapCls f)) → Q () ⟨h', g, d, t, os⟩) : wpAny (model prog w) A (updateCls a f) Q E ⟨h, g, d, t, os⟩ := by
  unfold updateCls
  refine wpAny_bind (wpAny_load (D.at j a o hi) ?_)
  rw [hc]
  have hf : (o.mapCls f).isFreed = false := by obtain ⟨a, b, e, k⟩ := o; cases hc; rfl
  have D' := D.update (f := Obj.mapCls f) hi hf
  refine wpAny_bind (wpAny_update (D.at j a o hi) ?_)
  unfold lookBehind
  obtain ⟨hl, _⟩ := List.getElem?_eq_some_iff.mp hi
  refine wpAny_bind (wpAny_loadPart (D'.at j a _ (by rw [List.getElem?_set_self hl])) ?_)
  rw [hp]
  exact wpAny_pure (x _ D')
noncomputable def setSl (i : Nat) (v : Option Value) (o : Obj) : Obj := { o with slots := (o.slots ++ Array.replicate (i + 1 - o.slots.size) none).setIfInBounds i v }
variable {p p2 : Addr × Obj} {l : List (Addr × Obj)} {a : Addr} {o : Obj}
theorem m_slot0 {i : Nat} {v : Option Value} {Q : Unit → Shared → Prop} (D : Mem h₀ h chg ((a, o) :: l)) (hl : i < sizeLine) (hf : o.isFreed = false) (x : ∀ h', Mem h₀ h' chg ((a, setSl i v o) :: l) → Q () ⟨h', g, d, t, os⟩) :
    wpAny (model prog w) A (setSlotAt a i v) Q E ⟨h, g, d, t, os⟩ := m_slot 0 D rfl hl hf x
theorem m_slot1 {i : Nat} {v : Option Value} {Q : Unit → Shared → Prop} (D : Mem h₀ h chg (p :: (a, o) :: l)) (hl : i < sizeLine) (hf : o.isFreed = false) (x : ∀ h', Mem h₀ h' chg (p :: (a, setSl i v o) :: l) → Q () ⟨h', g, d, t, os⟩) :
    wpAny (model prog w) A (setSlotAt a i v) Q E ⟨h, g, d, t, os⟩ := m_slot 1 D rfl hl hf x
theorem m_nsDel1 {name : Str} {Q : Bool → Shared → Prop} (D : Mem h₀ h chg (p :: (a, o) :: l)) (l' : nsHas name o = pure true) (hf : (o.dropName name).isFreed = false)
    (x : ∀ h', Mem h₀ h' chg (p :: (a, o.dropName name) :: l) → Q true ⟨h', g, d, t, os⟩) : wpAny (model prog w) A (nsDel a name) Q E ⟨h, g, d, t, os⟩ := m_nsDel 1 D rfl l' hf x
theorem m_updCls0 {c : ClassData} {f : ClassData → ClassData} {Q : Unit → Shared → Prop} (D : Mem h₀ h chg ((a, o) :: l)) (hc : o.data = .cls c) (hp : (o.mapCls f).data.pastItsLine = none)
    (x : ∀ h', Mem h₀ h' chg ((a, o.mapCls f) :: l) → Q () ⟨h', g, d, t, os⟩) : wpAny (model prog w) A (updateCls a f) Q E ⟨h, g, d, t, os⟩ := m_updCls 0 D rfl hc hp x
theorem m_updCls1 {c : ClassData} {f : ClassData → ClassData} {Q : Unit → Shared → Prop} (D : Mem h₀ h chg (p :: (a, o) :: l)) (hc : o.data = .cls c) (hp : (o.mapCls f).data.pastItsLine = none)
    (x : ∀ h', Mem h₀ h' chg (p :: (a, o.mapCls f) :: l) → Q () ⟨h', g, d, t, os⟩) : wpAny (model prog w) A (updateCls a f) Q E ⟨h, g, d, t, os⟩ := m_updCls 1 D rfl hc hp x
noncomputable def hashOf (w : World) (name : Str) : Int := if name.cps.isEmpty then 0 else reduceHash (w.params.strHash name.cps)
theorem m_nsSet (j : Nat) {a : Addr} {o : Obj} {es : Array DictEntry} {n : Nat} {name : Str} {v : Value} {Q : Unit → Shared → Prop} (D : Mem h₀ h chg news) (hi : news[j]? = some (a, o)) (hd : o.data = .dict es n) (hr : aRefKeyMayBeTheName name es = false)
    (hf : ∀ hs key, (Obj.putName name hs key v o).isFreed = false)
    (x : ∀ h', Mem h₀ h' chg (news.set j (a, Obj.putName name (hashOf w name) (.str name t) v o)) → Q () ⟨h', g, d, t + 1, os⟩) : wpAny (model prog w) A (nsSet a name v) Q E ⟨h, g, d, t, os⟩ := by
  unfold nsSet strHash
  refine wpAny_bind (wpAny_bind (wpAny_askSetting (wpAny_pure (wpAny_bind (wpAny_mkText ?_)))))
  refine wpAny_bind (wpAny_loadPart (D.at j a o hi) ?_)
  rw [hd]
  dsimp only
  rw [hr]
  exact wpAny_updatePart (D.at j a o hi) (x _ (D.update hi (hf _ _)))
theorem m_nsSet2 (es : Array DictEntry) (n : Nat) {name : Str} {v : Value} {Q : Unit → Shared → Prop} (D : Mem h₀ h chg (p :: p2 :: (a, o) :: l)) (hd : o.data = .dict es n) (hr : aRefKeyMayBeTheName name es = false)
    (hf : ∀ hs key, (Obj.putName name hs key v o).isFreed = false)
    (x : ∀ h', Mem h₀ h' chg (p :: p2 :: (a, Obj.putName name (hashOf w name) (.str name t) v o) :: l) → Q () ⟨h', g, d, t + 1, os⟩) : wpAny (model prog w) A (nsSet a name v) Q E ⟨h, g, d, t, os⟩ := m_nsSet 2 D rfl hd hr hf x
theorem m_newT {ty : String} {data : Data} {Q : Value → Shared → Prop} (D : Mem h₀ h chg news) (hf : ({ cls := .type ty, data := data } : Obj).isFreed = false) (hs : newObj (.type ty) data = newObjAsIs (.type ty) data)
    (x : ∀ a h', Mem h₀ h' chg ((a, { cls := .type ty, data := data }) :: news) → Q (.ref a) ⟨h', g, d, t, os⟩) : wpAny (model prog w) A (newObj (.type ty) data) Q E ⟨h, g, d, t, os⟩ := by
  rw [hs]
  unfold newObjAsIs
  exact wpAny_bind (wpAny_alloc (wpAny_pure (x _ _ (D.alloc hf))))
end
theorem co_new : classOwn (.type "object") "__new__" = pure (some (.builtin "object.__new__")) := by kernel_rfl
theorem anyDel {F : Value → Sem Bool} (h : F (.type "object") = pure false) : List.anyM F [.type "object"] = pure false := by
  show (F (.type "object") >>= _) = _
  rw [h]; rfl
theorem filt1 (C : Addr) : List.filter (fun x => x != Value.ref C) [Value.ref C, Value.type "object"] = [.type "object"] := by simp
section
variable {w : World} {A : Around} {E : Value → Shared → Prop} {s : Shared}
/-- a name along the line of a class over object -/
theorem tlC {C ns : Addr} {o oN : Obj} {c : ClassData} {name : Str} {r : Option Value} {Q : Option Value → Shared → Prop} (e : s.heap.get? C = some o) (hc : o.data = .cls c) (hm : c.mro = [.ref C, .type "object"]) (hn : c.ns = ns)
    (eN : s.heap.get? ns = some oN) (l : lookIn name oN = some none) (hb : classOwn (.type "object") name = pure r) (h : Q r s) : wpAny (model prog w) A (typeLookup (.ref C) name) Q E s := by
  have cd : ∀ {Q : ClassData → Shared → Prop}, Q c s → wpAny (model prog w) A (classData C) Q E s := by
    intro Q h
    unfold classData
    refine wpAny_bind (wpAny_load e ?_)
    rw [hc]
    exact wpAny_pure h
  unfold typeLookup mroOf
  refine wpAny_bind (wpAny_bind (cd (wpAny_pure ?_)))
  rw [hm]
  refine wpAny_bind ?_
  rw [List.forIn_cons]
  refine wpAny_bind (wpAny_bind ?_)
  unfold classOwn
  refine wpAny_bind (cd ?_)
  rw [hn]
  refine nsGet_at eN l (wpAny_pure ?_)
  dsimp only
  rw [List.forIn_cons]
  refine wpAny_bind (wpAny_bind (of_pu hb ?_))
  cases r with
  | none => exact wpAny_pure (wpAny_pure (wpAny_pure h))
  | some v => exact wpAny_pure (wpAny_pure (wpAny_pure h))
end
section
variable {w : World} {A : Around} {E : Value → Shared → Prop} {s : Shared}
theorem loopL {β : Type} (F : DictEntry → β → Sem (ForInStep β)) (b : β) {Q : β → Shared → Prop} (h : Q b s) : ∀ (es : List DictEntry), (∀ e ∈ es, ∀ Q, Q (.yield b) s → wpAny (model prog w) A (F e b) Q E s) → wpAny (model prog w) A (forIn es b F) Q E s
  | [], _ => by rw [List.forIn_nil]; exact wpAny_pure h
  | e :: es, hF => by
    rw [List.forIn_cons]
    exact wpAny_bind (hF e (.head _) _ (loopL F b h es fun x hx => hF x (.tail _ hx)))
theorem loopG {β : Type} {es : Array DictEntry} {F : DictEntry → β → Sem (ForInStep β)} {b : β} {Q : β → Shared → Prop} (hF : ∀ e ∈ es.toList, ∀ Q, Q (.yield b) s → wpAny (model prog w) A (F e b) Q E s) (h : Q b s) : wpAny (model prog w) A (forIn es b F) Q E s := by
  rw [← Array.forIn_toList]
  exact loopL F b h _ hF
end
noncomputable def nsFin (hs : Nat → Int) (tk : Nat → Tok) (mo fi : Value) (sl : Addr) (f : Nat → Addr) (st md : Addr) (h1 h2 : Int) (t1 t2 : Tok) : Array DictEntry :=
  #[⟨hs 0, .str "__module__" (tk 0), mo⟩, ⟨hs 2, .str "__firstlineno__" (tk 2), fi⟩, ⟨hs 3, .str "__slots__" (tk 3), .ref sl⟩,
    ⟨hs 4, .str "__init__" (tk 4), .ref (f 0)⟩, ⟨hs 5, .str "__lt__" (tk 5), .ref (f 1)⟩, ⟨hs 6, .str "__gt__" (tk 6), .ref (f 2)⟩, ⟨hs 7, .str "__eq__" (tk 7), .ref (f 3)⟩, ⟨hs 8, .str "__le__" (tk 8), .ref (f 4)⟩, ⟨hs 9, .str "__ge__" (tk 9), .ref (f 5)⟩,
    ⟨hs 10, .str "__hash__" (tk 10), .none⟩, ⟨hs 11, .str "__static_attributes__" (tk 11), .ref st⟩, ⟨h1, .str "obj" t1, .ref md⟩, ⟨h2, .str "__doc__" t2, .none⟩]
theorem sn_fn : typeLookup (.type "function") "__set_name__" = pure none := by kernel_rfl
theorem sn_tup : typeLookup (.type "tuple") "__set_name__" = pure none := by kernel_rfl
theorem sn_list : typeLookup (.type "list") "__set_name__" = pure none := by kernel_rfl
theorem sn_md : typeLookup (.type "member_descriptor") "__set_name__" = pure none := by kernel_rfl
theorem sn_str (x : Str) (t : Tok) : specialOf (.str x t) "__set_name__" = pure none := by kernel_rfl
theorem sn_int (x : Int) (t : Tok) : specialOf (.int x t) "__set_name__" = pure none := by kernel_rfl
theorem sn_none : specialOf .none "__set_name__" = pure none := by kernel_rfl
theorem nf_some : ("object.__new__" : String).endsWith ".__new__" = true := by decide +kernel
theorem tl_iter : typeLookup (.type "dict") "__iter__" = pure (some (.builtin "dict.__iter__")) := by kernel_rfl
set_option maxHeartbeats 1000000 in
theorem tn0 {w : World} {A : Around} {E : Value → Shared → Prop} {Q : PySem.Fin → Shared → Prop} {s : Shared} {T N sl st : Addr} {f : Nat → Addr} {hs : Nat → Int} {tk : Nat → Tok} {tn tq tm tf ts : Tok} {nd : Nat} (hN : N ≠ sysModules)
   (eT : s.heap.get? T = some { cls := .type "tuple", data := .seq #[.type "object"] })
   (eN : s.heap.get? N = some { cls := .type "dict", data := .dict (nsEs hs tk (.str "cpy313.functools" tm) (.str "cmp_to_key.<locals>.K" tq) (.int 59 tf) sl f st) nd })
   (eS : s.heap.get? sl = some { cls := .type "list", data := .seq #[.str "obj" ts] })
   (eF : ∀ i, i < 6 → ∃ o, s.heap.get? (f i) = some o ∧ o.cls = .type "function") (eSt : ∃ o, s.heap.get? st = some o ∧ o.cls = .type "tuple")
   (e2 : ∃ o2, s.heap.get? cStatics = some o2 ∧ lookIn "thirdparty.any" o2 = some none)
   (hq : ∀ C ns md h' tk' h1 h2 t0 t1 t2, (∀ b o, s.heap.get? b = some o → h'.get? b = some o) → h'.get? C = some ⟨.type "type", none, .cls (kCd C ns), kSl T tn tq⟩ →
      h'.get? ns = some { cls := .type "dict", data := .dict (nsFin hs tk (.str "cpy313.functools" tm) (.int 59 tf) sl f st md h1 h2 t1 t2) 3 } →
      h'.get? md = some { cls := .type "member_descriptor", data := .fields #[.str "obj" t0, .ref C, .builtin "proto.slot", .builtin "proto.slot#set", .int 0 0] } →
      Q (.done (.ret (.ref C))) { s with heap := h', toks := tk' })
   : wpAny (model prog w) A (Builtin.«type.__new__» ⟨[.type "type", .str "K" tn, .ref T, .ref N], []⟩) Q E s := by
  have hN' : ¬ ((N == sysModules) = true) := fun q => hN (beq_iff_eq.mp q)
  obtain ⟨h, g, d, k, os⟩ := s
  iterate 260 try first
    | with_reducible refine nd_pure ?_
    | with_reducible refine nd_load eT ?_
    | with_reducible refine nd_load eN ?_
    | with_reducible refine nd_rule ?_
    | with_reducible refine nd_point ?_
    | with_reducible refine nd_fresh ?_
    | with_reducible refine nd_ask ?_
    | with_reducible refine inst_ref eT tn_subT ?_
    | with_reducible refine inst_ref eN tn_subD ?_
    | with_reducible refine of_pu tn_isT ?_
    | with_reducible refine of_pu tn_ty ?_
    | with_reducible refine of_pu tn_sub ?_
    | ((with_reducible show wpAny _ _ (notOverATurnedClass _) _ _ _); refine of_pu tn_turn ?_)
    | ((with_reducible show wpAny _ _ (extendedBase _) _ _ _); refine of_pu tn_ext ?_)
    | ((with_reducible show wpAny _ _ (Slots.read _ _ _) _ _ _); refine slotsRead eS ?_; intro a1 h1 D)
    | ((with_reducible show wpAny _ _ (newObj _ _) _ _ _); refine m_newT D (by kernel_rfl) (by kernel_rfl) ?_; clear D; intro ns h2 D)
    | ((with_reducible show wpAny _ _ (nsGet _ (Str.ofString "__qualname__")) _ _ _); refine m_nsGet 0 (some (.str "cmp_to_key.<locals>.K" tq)) D rfl (by kernel_rfl) ?_)
    | ((with_reducible show wpAny _ _ (nsGet _ _) _ _ _); first | refine m_nsGet 1 none D rfl (by kernel_rfl) ?_ | refine m_nsGet 0 none D rfl (by kernel_rfl) ?_)
    | ((with_reducible show wpAny _ _ (alloc _) _ _ _); refine m_alloc D (by kernel_rfl) ?_; clear D; intro C h3 D)
    | with_reducible refine special_ref eN tl_iter ?_
    | with_reducible refine ite_no hN' ?_
    | ((with_reducible show wpAny _ _ (setSlotAt _ _ _) _ _ _); refine m_slot0 D (by decide) (by kernel_rfl) ?_; clear D; intro h3 D)
    | ((with_reducible show wpAny _ _ (nsDel _ _) _ _ _); refine m_nsDel1 D (by kernel_rfl) (by kernel_rfl) ?_; clear D; intro h3 D)
    | with_reducible refine of_pu tn_hook ?_
    | ((with_reducible show wpAny _ _ (linearize _ _) _ _ _); refine of_pu tn_lin ?_)
    | lk
    | refine ite_b0 (by kernel_rfl) ?_
  rw [filt1]
  refine of_pu (anyDel (by kernel_rfl)) ?_
  iterate 118 try first
    | with_reducible refine nd_pure ?_
    | with_reducible refine nd_fresh ?_
    | ((with_reducible show wpAny _ _ (updateCls _ _) _ _ _); (first | refine m_updCls0 D rfl (by kernel_rfl) ?_ | refine m_updCls1 D rfl (by kernel_rfl) ?_); clear D; intro h3 D)
    | with_reducible refine of_pu tn_made ?_
    | ((with_reducible show wpAny _ _ (slotAt _ _) _ _ _); refine m_slotAt 0 (some (.builtin "object.__new__")) D rfl (by kernel_rfl) ?_)
    | with_reducible refine of_pu tn_note _ ?_
    | ((with_reducible show wpAny _ _ (Slots.givesDict _) _ _ _); refine of_pu tn_dict ?_)
    | ((with_reducible show wpAny _ _ (Slots.givesWeak _) _ _ _); refine of_pu tn_weak ?_)
    | ((with_reducible show wpAny _ _ (typeLookup (.ref C) _) _ _ _); refine tlC (D.at 0 _ _ rfl) rfl rfl rfl (D.at 1 _ _ rfl) (by kernel_rfl) co_new ?_)
    | ((with_reducible show wpAny _ _ (nsGet _ (Str.ofString "__eq__")) _ _ _); refine m_nsGet 2 (some (.ref (f 3))) D rfl (by kernel_rfl) ?_)
    | ((with_reducible show wpAny _ _ (nsGet _ (Str.ofString "__hash__")) _ _ _); refine m_nsGet 2 (some .none) D rfl (by kernel_rfl) ?_)
    | ((with_reducible show wpAny _ _ (nsGet _ _) _ _ _); first | refine m_nsGet 1 none D rfl (by kernel_rfl) ?_ | refine m_nsGet 2 none D rfl (by kernel_rfl) ?_)
    | ((with_reducible show wpAny _ _ (setSlotAt _ _ _) _ _ _); (first | refine m_slot0 D (by decide) (by kernel_rfl) ?_ | refine m_slot1 D (by decide) (by kernel_rfl) ?_); clear D; intro h3 D)
    | ((with_reducible show wpAny _ _ (newObj _ _) _ _ _); refine m_newT D (by kernel_rfl) (by kernel_rfl) ?_; clear D; intro md h3 D)
    | ((with_reducible show wpAny _ _ (nsSet _ _ _) _ _ _); refine m_nsSet2 _ _ D rfl (by kernel_rfl) (fun _ _ => by kernel_rfl) ?_; clear D; intro h3 D)
    | ((with_reducible show wpAny _ _ (Sem.load _ _ _) _ _ _); first | refine m_ld 0 D rfl ?_ | refine m_ld 1 D rfl ?_ | refine m_ld 2 D rfl ?_)
    | lk
    | refine ite_b0 (by kernel_rfl) ?_
  refine wpAny_tryCatch (wpAny_holding ?_)
  replace D : Mem h h3 [] [(md, { cls := .type "member_descriptor", data := .fields #[.str "obj" k, .ref C, .builtin "proto.slot", .builtin "proto.slot#set", .int 0 0] }), (C, ⟨.type "type", none, .cls (kCd C ns), kSl T tn tq⟩),
      (ns, { cls := .type "dict", data := .dict (nsFin hs tk (.str "cpy313.functools" tm) (.int 59 tf) sl f st md (hashOf w "obj") (hashOf w "__doc__") (k + 1) (k + 1 + 1)) 3 }), (a1, { cls := .type "list", data := .seq #[.str "obj" ts] 1 })] :=
    Eq.mp (congrArg (Mem h h3 []) (by kernel_rfl)) D
  have eC := D.at 1 _ _ rfl
  have eM := D.at 0 _ _ rfl
  have eNs := D.at 2 _ _ rfl
  show wpAny _ _ _ _ _ ⟨h3, g, d, k + 1 + 1 + 1, os⟩
  have kp : ∀ b o, h.get? b = some o → h3.get? b = some o := fun b o e => D.keep b o e (by simp [away])
  refine wpAny_bind ?_
  unfold dictEntries
  refine wpAny_bind (wpAny_loadPart eNs (wpAny_pure ?_))
  refine wpAny_bind (loopG ?_ ?_)
  · unfold nsFin
    iterate 13 refine List.forall_mem_cons.mpr ⟨fun Q hQ => wpAny_bind (wpAny_pure (wpAny_pure hQ)), ?_⟩
    exact fun _ h => nomatch h
  show wpAny _ _ (bind (bind (loadPart _ _) _) _) _ _ _
  refine wpAny_bind (wpAny_bind (wpAny_loadPart eNs (wpAny_pure ?_)))
  refine wpAny_bind (loopG ?_ ?_)
  · unfold nsFin
    have fn : ∀ i, i < 6 → ∀ {Q : Option Value → Shared → Prop} {E : Value → Shared → Prop}, Q none ⟨h3, g, d, k + 1 + 1 + 1, os⟩ → wpAny (model prog w) A (specialOf (.ref (f i)) "__set_name__") Q E ⟨h3, g, d, k + 1 + 1 + 1, os⟩ := by
      intro i hi Q E hQ
      obtain ⟨o, eo, co⟩ := eF i hi
      exact special_ref (kp _ _ eo) (by rw [co]; exact sn_fn) hQ
    obtain ⟨oS9, eS9, cS9⟩ := eSt
    refine List.forall_mem_cons.mpr ⟨fun Q hQ => ite_b0 rfl (wpAny_bind (of_pu (sn_str _ _) (wpAny_pure hQ))), ?_⟩
    refine List.forall_mem_cons.mpr ⟨fun Q hQ => ite_b0 rfl (wpAny_bind (of_pu (sn_int _ _) (wpAny_pure hQ))), ?_⟩
    refine List.forall_mem_cons.mpr ⟨fun Q hQ => ite_b0 rfl (wpAny_bind (special_ref (kp _ _ eS) sn_list (wpAny_pure hQ))), ?_⟩
    refine List.forall_mem_cons.mpr ⟨fun Q hQ => ite_b0 rfl (wpAny_bind (fn 0 (by omega) (wpAny_pure hQ))), ?_⟩
    refine List.forall_mem_cons.mpr ⟨fun Q hQ => ite_b0 rfl (wpAny_bind (fn 1 (by omega) (wpAny_pure hQ))), ?_⟩
    refine List.forall_mem_cons.mpr ⟨fun Q hQ => ite_b0 rfl (wpAny_bind (fn 2 (by omega) (wpAny_pure hQ))), ?_⟩
    refine List.forall_mem_cons.mpr ⟨fun Q hQ => ite_b0 rfl (wpAny_bind (fn 3 (by omega) (wpAny_pure hQ))), ?_⟩
    refine List.forall_mem_cons.mpr ⟨fun Q hQ => ite_b0 rfl (wpAny_bind (fn 4 (by omega) (wpAny_pure hQ))), ?_⟩
    refine List.forall_mem_cons.mpr ⟨fun Q hQ => ite_b0 rfl (wpAny_bind (fn 5 (by omega) (wpAny_pure hQ))), ?_⟩
    refine List.forall_mem_cons.mpr ⟨fun Q hQ => ite_b0 rfl (wpAny_bind (of_pu sn_none (wpAny_pure hQ))), ?_⟩
    refine List.forall_mem_cons.mpr ⟨fun Q hQ => ite_b0 rfl (wpAny_bind (special_ref (kp _ _ eS9) (by rw [cS9]; exact sn_tup) (wpAny_pure hQ))), ?_⟩
    refine List.forall_mem_cons.mpr ⟨fun Q hQ => ite_b0 rfl (wpAny_bind (special_ref eM sn_md (wpAny_pure hQ))), ?_⟩
    refine List.forall_mem_cons.mpr ⟨fun Q hQ => ite_b0 rfl (wpAny_bind (of_pu sn_none (wpAny_pure hQ))), ?_⟩
    exact fun _ h => nomatch h
  refine wpAny_bind (sup1 eC ?_)
  intro S h4 D4
  have kp4 : ∀ b o, h3.get? b = some o → h4.get? b = some o := fun b o e => D4.keep b o e (by simp [away])
  obtain ⟨o2, e2, l2⟩ := e2
  refine wpAny_bind (wpAny_holding (getSup (s := ⟨h4, g, d, k + 1 + 1 + 1, os⟩) (D4.at 0 _ _ rfl) (kp4 _ _ eC) (kp4 _ _ (kp _ _ e2)) l2 ?_))
  intro F h5 D5
  have kp5 : ∀ b o, h4.get? b = some o → h5.get? b = some o := fun b o e => D5.keep b o e (by simp [away])
  refine wpAny_bind (iscall (h := h5) (kp5 _ _ (kp4 _ _ eC)) (D5.at 0 _ _ rfl) (wpAny_pure (wpAny_pure ?_)))
  exact hq C ns md h5 _ _ _ _ _ _ (fun b o e => kp5 _ _ (kp4 _ _ (kp _ _ e))) (kp5 _ _ (kp4 _ _ eC)) (kp5 _ _ (kp4 _ _ eNs)) (kp5 _ _ (kp4 _ _ eM))
end Mine

end
section
open PySem PySem.W PySem.W.X PyProof.Rows Builtin
set_option linter.unusedVariables false
namespace Mine
set_option maxRecDepth 100000
/-! code tables, found or made -/
theorem codeAmong_more {pos : Pos} {c : Value} {r : List Value} : ∀ (l : List Value), codeAmong pos l = some c → codeAmong pos (l ++ r) = some c := by
  intro l
  fun_induction codeAmong pos l with
  | case1 a t b u x rest hc => intro h; simp only [List.cons_append, codeAmong]; rw [if_pos hc]; exact h
  | case2 a t b u x rest hc ih => intro h; simp only [List.cons_append, codeAmong]; rw [if_neg hc]; exact ih h
  | case3 => intro h; cases h
theorem codeAmong_last {pos : Pos} {a b : Int} {c : Value} : ∀ (l : List Value), TriplesOk l → codeAmong pos l = none → codeAmong pos (l ++ [rawInt a, rawInt b, c]) = if (a == (pos.line : Int) && b == (pos.col : Int)) = true then some c else none := by
  intro l
  fun_induction TriplesOk l with
  | case1 => intro _ _; simp only [List.nil_append, rawInt, codeAmong]
  | case2 a' t b' u x rest ih =>
    intro h hn
    simp only [List.cons_append, codeAmong] at hn ⊢
    split at hn
    · cases hn
    · rename_i hc; rw [if_neg hc]; exact ih h hn
  | case3 l h1 h2 => intro h; exact h.elim
/-- the table at P: what it has of K is right, what is done stands in it -/
noncomputable def TabAt (h : Heap) (P : Addr) (K : List (Pos × Str)) (done : List Pos) : Prop :=
  ∃ ps, h.get? P = some (tabObj ps) ∧ TriplesOk ps.toList ∧ (∀ p ∈ K, ∀ cv, codeAmong p.1 ps.toList = some cv → h.CodeRec cv p.2) ∧ ∀ p ∈ done, (codeAmong p ps.toList).isSome = true
/-- what a code table or a code's record is -/
noncomputable def IsCd (o : Obj) : Prop := (∃ ps, o = tabObj ps) ∨ ∃ vs q t, o.data = .fields vs ∧ vs[1]? = some (.str q t)
theorem codeRec_cd {h h' : Heap} {cv : Value} {q : Str} (x : h.CodeRec cv q) (k : ∀ b o, IsCd o → h.get? b = some o → h'.get? b = some o) : h'.CodeRec cv q :=
  let ⟨c, o, vs, t, e1, e2, e3, e4⟩ := x; ⟨c, o, vs, t, e1, k _ _ (.inr ⟨vs, q, t, e3, e4⟩) e2, e3, e4⟩
theorem TabAt.cd {h h' : Heap} {P : Addr} {K : List (Pos × Str)} {done : List Pos} (x : TabAt h P K done) (k : ∀ b o, IsCd o → h.get? b = some o → h'.get? b = some o) : TabAt h' P K done :=
  let ⟨ps, e, t, r, d⟩ := x; ⟨ps, k _ _ (.inl ⟨ps, rfl⟩) e, t, fun p hp cv hc => codeRec_cd (r p hp cv hc) k, d⟩
theorem TabAt.keeps {h h' : Heap} {P : Addr} {K : List (Pos × Str)} {done : List Pos} (x : TabAt h P K done) (k : ∀ b o, h.get? b = some o → h'.get? b = some o) : TabAt h' P K done := x.cd fun b o _ => k b o
theorem codeRec_tab {h h' : Heap} {P : Addr} {ps : Array Value} {cv : Value} {q : Str} (x : h.CodeRec cv q) (e : h.get? P = some (tabObj ps)) (ht : TriplesOk ps.toList) (k : Heap.ExtBut P h h') : h'.CodeRec cv q := by
  obtain ⟨c, o, vs, t, e1, e2, e3, e4⟩ := x
  refine ⟨c, o, vs, t, e1, k _ _ (fun z => ?_) e2, e3, e4⟩
  subst z
  rw [e] at e2
  cases e2
  cases e3
  rw [← Array.getElem?_toList] at e4
  exact triples_no_str ht q t e4
theorem TabAt.addr {h : Heap} {P : Addr} {K : List (Pos × Str)} {done : List Pos} (x : TabAt h P K done) : P < h.objs.size := let ⟨_, e, _⟩ := x; Heap.lt_size e

section
variable {w : World} {A : Around} {E : Value → Shared → Prop} {s : Shared} {name qual : Str} {params : Arguments} {body : List Stmt} {scope : Scope} {env : Env} {c P : Addr} {pos : Pos} {firstLine : Nat} {mg : Str → Option Value}
  {clos : List (Str × Addr)} {Q : Value → Shared → Prop} {K : List (Pos × Str)} {done : List Pos}
theorem makeF (hcl : closureFor scope env = pure clos) (hge0 : env.globals = mainGlobals) (hg : s.heap.Ns mainGlobals mg) (hcode : env.code = .ref c) (C : CodeHd s.heap c P) (T : TabAt s.heap P K done)
    (hK : (pos, qual) ∈ K) (hK' : ∀ p ∈ K, p.1.line = pos.line → p.1.col = pos.col → p.2 = qual) (hb : ∃ bm ob, mg "__builtins__" = some (.ref bm) ∧ bm ≠ builtinsNs ∧ s.heap.get? bm = some ob ∧ ob.cls = .type "module" ∧ ob.dict = some builtinsNs ∧ ob.data = .plain)
    (h : ∀ f h' tk doc cv ctv, s.heap.objs.size ≤ f → (∀ b o, b ≠ P → s.heap.get? b = some o → h'.get? b = some o) → (pos ∈ done → ∀ b o, s.heap.get? b = some o → h'.get? b = some o) → TabAt h' P K (pos :: done) →
      h'.get? f = some { cls := .type "function", data := .func (fnX name qual params body scope clos .none .none doc ((mg "__name__").getD .none) none cv ctv) } → h'.CodeRec cv qual → s.heap.objs.size ≤ h'.objs.size →
      Q (.ref f) { s with heap := h', toks := tk }) :
    wpAny (model prog w) A (makeFunction name qual params (.stmts body) scope env [] [] [] pos firstLine) Q E s := by
  obtain ⟨ps, hP, ht, hr, hdn⟩ := id T
  have hgP : mainGlobals ≠ P := fun q => by
    obtain ⟨o, es, ep, e1, e2, _⟩ := hg
    rw [q, hP] at e1; cases e1; cases e2
  have hB : s.heap.BuiltinsAt mg P := by
    obtain ⟨bm, ob, a1, a2, a3, a4, a5, a6⟩ := hb
    refine ⟨bm, ob, a1, a2, fun q => ?_, fun q => ?_, a3, a4, a5, a6⟩
    · obtain ⟨o, es, ep, e1, e2, _⟩ := hg
      rw [q, e1] at a3; cases a3; rw [e2] at a6; cases a6
    · rw [q, hP] at a3; cases a3; cases a4
  cases hq : codeAmong pos ps.toList with
  | some cv =>
    refine makeFunction_hit hcl hge0 hg hcode C hP ht hq hB fun ctv doc h' tk hk hsz => ?_
    have hk2 : ∀ b o, s.heap.get? b = some o → (h'.push { cls := .type "function", data := .func (fnX name qual params body scope clos .none .none doc ((mg "__name__").getD .none) none cv ctv) }).get? b = some o :=
      fun b o e => Heap.get?_push_of_some _ (hk b o e)
    refine h _ _ tk doc cv ctv hsz (fun b o _ e => hk2 b o e) (fun _ => hk2) ?_ (Heap.get?_push_size _ rfl) ((hr _ hK _ hq).keeps hk2) (by rw [Heap.size_push]; omega)
    obtain ⟨ps', e', t', r', d'⟩ := T.keeps hk2
    rw [hk2 _ _ hP] at e'
    cases e'
    refine ⟨ps, hk2 _ _ hP, t', r', fun p hp => ?_⟩
    rcases List.mem_cons.mp hp with rfl | hp
    · rw [hq]; rfl
    · exact d' p hp
  | none =>
    refine makeFunction_K hcl hge0 hg hcode C hP ht hq hgP hB fun c' ctv doc h' tk hx hge hlt hrec htb => ?_
    have hk2 : ∀ b o, b ≠ P → s.heap.get? b = some o → (h'.push (fnMade name qual params body scope clos doc ((mg "__name__").getD .none) c' ctv)).get? b = some o :=
      fun b o hb e => Heap.get?_push_of_some _ (hx b o hb e)
    refine h _ _ tk doc _ ctv (by omega) hk2 (fun hm => ?_) ?_ (Heap.get?_push_size _ rfl) (hrec.keeps fun b o e => Heap.get?_push_of_some _ e) (by rw [Heap.size_push]; omega)
    · have := hdn _ hm
      rw [hq] at this; cases this
    · have hl : (ps ++ #[rawInt pos.line, rawInt pos.col, Value.ref c']).toList = ps.toList ++ [rawInt pos.line, rawInt pos.col, .ref c'] := by simp
      refine ⟨_, Heap.get?_push_of_some _ htb, by rw [hl]; exact TriplesOk_snoc _ _ _ _ ht, fun p hp cv hc => ?_, fun p hp => ?_⟩
      · rw [hl] at hc
        cases hq2 : codeAmong p.1 ps.toList with
        | some cv' =>
          rw [codeAmong_more _ hq2] at hc
          cases hc
          exact (codeRec_tab (hr p hp cv hq2) hP ht hx).keeps fun b o e => Heap.get?_push_of_some _ e
        | none =>
          rw [codeAmong_last _ ht hq2] at hc
          split at hc
          · rename_i hm
            cases hc
            simp only [Bool.and_eq_true, beq_iff_eq] at hm
            rw [hK' p hp (by omega) (by omega)]
            exact hrec.keeps fun b o e => Heap.get?_push_of_some _ e
          · cases hc
      · rw [hl]
        rcases List.mem_cons.mp hp with rfl | hp
        · rw [codeAmong_snoc _ ht hq]; rfl
        · have := hdn p hp
          rw [Option.isSome_iff_exists] at this
          obtain ⟨cv, hcv⟩ := this
          rw [codeAmong_more _ hcv]; rfl
end
end Mine

end
section
open PySem PySem.W PySem.W.X PyProof.Rows Builtin
set_option linter.unusedVariables false
namespace Mine
set_option maxRecDepth 100000
set_option maxHeartbeats 0
local macro_rules | `(tactic| x_close) => `(tactic| first | assumption | (apply_assumption; all_goals assumption))
theorem tga {w : World} {h : Heap} {g d t os} {Q : Value → Shared → Prop} {E : Value → Shared → Prop} {A : Around} {k : Tok}
  (hq : ∀ a h', Mem h h' [] [(a, { cls := .type "builtin_function_or_method", data := .fields #[.builtin "type.__prepare__", .type "type"] })] → Q (.ref a) ⟨h', g, d, t, os⟩) :
  wpAny (model prog w) A (call (.builtin "type.__getattribute__") [.type "type", .str "__prepare__" k] []) Q E ⟨h, g, d, t, os⟩ := by
  x_run
theorem ty_tt : typeOf (.type "type") = pure (.type "type") := by kernel_rfl
theorem slot_tga : Slot "type" "__getattribute__" "type.__getattribute__" :=
  Slot.of (owner := "type") (n := "__getattribute__") (by rw [typeLookup_type, builtinLookup_eq_fast]; kernel_rfl) (by decide +kernel) (by decide +kernel) (by decide +kernel) (.inl (by decide +kernel)) (by rw [isSubtype_type]; kernel_rfl)
theorem prep1 {w : World} {h : Heap} {g d t os} {Q : Option Value → Shared → Prop} {E : Value → Shared → Prop} {A : Around}
  (hq : ∀ a h', Mem h h' [] [(a, { cls := .type "builtin_function_or_method", data := .fields #[.builtin "type.__prepare__", .type "type"] })] → Q (some (.ref a)) ⟨h', g, d, t + 1, os⟩) :
  wpAny (model prog w) A (getAttr? (.type "type") "__prepare__") Q E ⟨h, g, d, t, os⟩ := by
  unfold getAttr? getAttrBy? getAttrBy
  refine wpAny_bind (wpAny_mkText (wpAny_bind (wpAny_attempt (wpAny_holding (wpAny_bind (of_pu ty_tt ?_))))))
  refine wpAny_bind (of_pu slot_tga.lookup ?_)
  show wpAny _ _ (getAttrByItsOwn _ _ _ _ _ _) _ _ _
  unfold getAttrByItsOwn
  refine wpAny_bind (of_pu (a := none) rfl ?_)
  refine wpAny_bind (wpAny_attempt (wpAny_holding ?_))
  show wpAny _ _ (boundAndCalled _ _ _) _ _ _
  unfold boundAndCalled
  refine wpAny_bind (of_pu (slot_tga.bind _) ?_)
  refine tga ?_
  intro a h' D
  exact wpAny_pure (wpAny_pure (hq a h' D))
theorem prep2 {w : World} {h : Heap} {g d t os} {T : Addr} {Q E : Value → Shared → Prop} {A : Around} {a : Addr} {n : Value}
  (ea : h.get? a = some { cls := .type "builtin_function_or_method", data := .fields #[.builtin "type.__prepare__", .type "type"] })
  (eT : h.get? T = some { cls := .type "tuple", data := .seq #[.type "object"] })
  (hq : ∀ a h', Mem h h' [] [(a, { cls := .type "dict", data := .dict #[] })] → Q (.ref a) ⟨h', g, d, t, os⟩) :
  wpAny (model prog w) A (call (.ref a) [n, .ref T] []) Q E ⟨h, g, d, t, os⟩ := by
  x_run
end Mine

end
section
open PySem PySem.W PySem.W.X PyProof.Rows Builtin
set_option linter.unusedVariables false
namespace Mine
set_option maxRecDepth 100000
set_option maxHeartbeats 0
section
local macro_rules | `(tactic| x_close) => `(tactic| first | assumption | (apply_assumption; all_goals assumption))
theorem tinit {w : World} {h : Heap} {g d t os} {C ns T N : Addr} {tn tq : Tok} {Q E : Value → Shared → Prop} {A : Around} {n : Tok}
  (eC : h.get? C = some ⟨.type "type", none, .cls (kCd C ns), kSl T tn tq⟩)
  (hq : Q .none ⟨h, g, d, t, os⟩) :
  wpAny (model prog w) A (call (.builtin "type.__init__") [.ref C, .str "K" n, .ref T, .ref N] []) Q E ⟨h, g, d, t, os⟩ := by
  x_run
end
theorem tc_mro : mroOf (.type "type") = pure [.type "type", .type "object"] := by kernel_rfl
theorem tc_made : Bind.madeBy (.type "type") = pure (some "type.__new__") := by kernel_rfl
theorem tc_chk (a b c : Value) : checkTypeCall "type" ⟨[a, b, c], []⟩ = pure () := by kernel_rfl
theorem tn_entry : entryFor table "type.__new__" = some Builtin.«type.__new__» := entryFor_of_tree (by kernel_rfl)
theorem tn_check (n : Tok) (T N : Addr) : checkBuiltinCall "type.__new__" ⟨[.type "type", .str "K" n, .ref T, .ref N], []⟩ = pure () := by kernel_rfl
theorem ti_bind (v : Value) : bindSpecial (.builtin "type.__init__") v = pure (.builtin "type.__init__", [v]) := 
 (Slot.of (T := "type") (name := "__init__") (owner := "type") (n := "__init__") (by rw [typeLookup_type, builtinLookup_eq_fast]; kernel_rfl) (by decide +kernel) (by decide +kernel) (by decide +kernel) (.inl (by decide +kernel)) (by rw [isSubtype_type]; kernel_rfl)).bind v
theorem ti_look : typeLookup (.type "type") "__init__" = pure (some (.builtin "type.__init__")) := by kernel_rfl
theorem typeCall {w : World} {A : Around} {E : Value → Shared → Prop} {Q : Value → Shared → Prop} {s : Shared} {T N sl st : Addr} {f : Nat → Addr} {hs : Nat → Int} {tk : Nat → Tok} {tn tq tm tf ts : Tok} {nd : Nat} (hN : N ≠ sysModules)
   (eT : s.heap.get? T = some { cls := .type "tuple", data := .seq #[.type "object"] })
   (eN : s.heap.get? N = some { cls := .type "dict", data := .dict (nsEs hs tk (.str "cpy313.functools" tm) (.str "cmp_to_key.<locals>.K" tq) (.int 59 tf) sl f st) nd })
   (eS : s.heap.get? sl = some { cls := .type "list", data := .seq #[.str "obj" ts] })
   (eF : ∀ i, i < 6 → ∃ o, s.heap.get? (f i) = some o ∧ o.cls = .type "function") (eSt : ∃ o, s.heap.get? st = some o ∧ o.cls = .type "tuple")
   (e2 : ∃ o2, s.heap.get? cStatics = some o2 ∧ lookIn "thirdparty.any" o2 = some none)
   (hq : ∀ C ns md h' tk' h1 h2 t0 t1 t2, (∀ b o, s.heap.get? b = some o → h'.get? b = some o) → h'.get? C = some ⟨.type "type", none, .cls (kCd C ns), kSl T tn tq⟩ →
      h'.get? ns = some { cls := .type "dict", data := .dict (nsFin hs tk (.str "cpy313.functools" tm) (.int 59 tf) sl f st md h1 h2 t1 t2) 3 } →
      h'.get? md = some { cls := .type "member_descriptor", data := .fields #[.str "obj" t0, .ref C, .builtin "proto.slot", .builtin "proto.slot#set", .int 0 0] } →
      Q (.ref C) { s with heap := h', toks := tk' })
   : wpAny (model prog w) A (call (.type "type") [.str "K" tn, .ref T, .ref N] []) Q E s := by
  refine wpAny_call (codeAny_of_tree ?_)
  show wpAny _ _ (again (.builtin "type.__call__" ⟨[.type "type", .str "K" tn, .ref T, .ref N], []⟩)) _ _ _
  refine wpAny_pure ⟨Code.quiet_builtin _ (by decide +kernel), codeAny_builtin entry_typeCall ?_⟩
  iterate 60 try first
    | ((with_reducible show wpAny _ _ (call (.builtin "type.__new__") _) _ _ _); refine wpAny_call (codeAny_call_builtin_at (Code.quiet_builtin _ (by decide +kernel)) tn_entry (of_pu (tn_check _ _ _) (tn0 hN eT eN eS eF eSt e2 ?_))); intro C ns md h' tk' h1 h2 t0 t1 t2 kp eC eNs eM)
    | ((with_reducible show wpAny _ _ (call (.builtin "type.__init__") _) _ _ _); refine tinit eC ?_)
    | with_reducible refine of_pu tc_mro ?_
    | with_reducible refine of_pu tc_made ?_
    | with_reducible refine of_pu (tc_chk _ _ _) ?_
    | with_reducible refine of_pu (ti_bind _) ?_
    | with_reducible refine inst_ref eC tn_sub ?_
    | with_reducible refine special_ref eC ti_look ?_
    | lk
  exact hq _ _ _ _ _ _ _ _ _ _ kp eC eNs eM
end Mine

end
section
open PySem PySem.W PySem.W.X PyProof.Rows Builtin
set_option linter.unusedVariables false
namespace Mine
set_option maxRecDepth 100000
/-! the class's body -/
noncomputable def clsSco : Scope := match ((bodyAt 10)[0]? : Option Stmt) with
  | some (Stmt.ClassDef _ _ _ _ _ _ s _ _ _ _) => s
  | _ => default
noncomputable def cEnv (N cell cc fr : Addr) : Env :=
  { scope := clsSco, locals := N, globals := mainGlobals, qual := "cmp_to_key.<locals>.K" ++ ".", code := .ref cc, frame := some fr, builtins := builtinsNs, cells := [("mycmp", cell)] }
noncomputable def K6 : List (Pos × Str) := [(⟨63, 8, 64, 26⟩, "cmp_to_key.<locals>.K.__init__"), (⟨66, 8, 67, 49⟩, "cmp_to_key.<locals>.K.__lt__"), (⟨69, 8, 70, 49⟩, "cmp_to_key.<locals>.K.__gt__"),
  (⟨72, 8, 73, 50⟩, "cmp_to_key.<locals>.K.__eq__"), (⟨75, 8, 76, 50⟩, "cmp_to_key.<locals>.K.__le__"), (⟨78, 8, 79, 50⟩, "cmp_to_key.<locals>.K.__ge__")]
/-- neither a table nor a namespace -/
noncomputable def Pl (o : Obj) : Prop := o.cls ≠ .none ∧ ∀ es n, o.data ≠ .dict es n
structure Bd (g h : Heap) (N P : Addr) (es : Array DictEntry) (nd : Nat) (fs : List (Addr × Obj)) (cr : List (Value × Str)) (done : List Pos) : Prop where
  ns : h.get? N = some { cls := .type "dict", data := .dict es nd }
  kp : ∀ b o, g.get? b = some o → h.get? b = some o
  gN : g.get? N = none
  gP : g.get? P = none ∨ ∀ p ∈ K6, p.1 ∈ done
  tab : TabAt h P K6 done
  fs : ∀ p ∈ fs, h.get? p.1 = some p.2 ∧ Pl p.2
  cr : ∀ p ∈ cr, h.CodeRec p.1 p.2
section
variable {g h h' : Heap} {N P : Addr} {es es' : Array DictEntry} {nd nd' : Nat} {fs : List (Addr × Obj)} {cr : List (Value × Str)} {done : List Pos}
theorem cd_ne {o : Obj} (x : IsCd o) : ∀ es n, o.data ≠ .dict es n := by
  intro es n q
  rcases x with ⟨ps, rfl⟩ | ⟨vs, _, _, e, _⟩
  · cases q
  · rw [e] at q; cases q
theorem Bd.store (B : Bd g h N P es nd fs cr done) (e : h'.get? N = some { cls := .type "dict", data := .dict es' nd' }) (hs : Heap.SameBut N h h') : Bd g h' N P es' nd' fs cr done := by
  have ne : ∀ b o, h.get? b = some o → (∀ es n, o.data ≠ .dict es n) → h'.get? b = some o := fun b o x q => (hs.2 b (fun z => by rw [z, B.ns] at x; cases x; exact q _ _ rfl)).trans x
  exact ⟨e, fun b o x => (hs.2 b (fun z => by rw [z, B.gN] at x; cases x)).trans (B.kp b o x), B.gN, B.gP, B.tab.cd fun b o c x => ne b o x (cd_ne c), fun p hp => ⟨ne _ _ (B.fs p hp).1 (B.fs p hp).2.2, (B.fs p hp).2⟩,
    fun p hp => codeRec_cd (B.cr p hp) fun b o c x => ne b o x (cd_ne c)⟩
theorem Bd.push (B : Bd g h N P es nd fs cr done) (o : Obj) (hf : o.isFreed = false) (pl : Pl o) : Bd g (h.push o) N P es nd ((h.objs.size, o) :: fs) cr done := by
  have k : ∀ b ob, h.get? b = some ob → (h.push o).get? b = some ob := fun b ob e => Heap.get?_push_of_some _ e
  refine ⟨k _ _ B.ns, fun b ob x => k _ _ (B.kp b ob x), B.gN, B.gP, B.tab.keeps k, fun p hp => ?_, fun p hp => (B.cr p hp).keeps k⟩
  rcases List.mem_cons.mp hp with rfl | hp
  · exact ⟨Heap.get?_push_size _ hf, pl⟩
  · exact ⟨k _ _ (B.fs p hp).1, (B.fs p hp).2⟩
theorem pl_fn {name qual : Str} {params : Arguments} {body : List Stmt} {scope : Scope} {cl : List (Str × Addr)} {doc pm cv ctv : Value} : Pl { cls := .type "function", data := .func (fnX name qual params body scope cl .none .none doc pm none cv ctv) } :=
  ⟨(by intro q; cases q), (by intro _ _ q; cases q)⟩
end
section
variable {w : World} {A : Around} {E : Value → Shared → Prop} {s : Shared}
/-- a name bound in the class's namespace -/
theorem nsSet_at {N : Addr} {o : Obj} {es : Array DictEntry} {n : Nat} {name : Str} {v : Value} {Q : Unit → Shared → Prop} (hi : s.heap.get? N = some o) (hd : o.data = .dict es n) (hr : aRefKeyMayBeTheName name es = false)
    (hf : ∀ hs key, (Obj.putName name hs key v o).isFreed = false)
    (x : ∀ h', h'.get? N = some (Obj.putName name (hashOf w name) (.str name s.toks) v o) → Heap.SameBut N s.heap h' → Q () { s with heap := h', toks := s.toks + 1 }) : wpAny (model prog w) A (nsSet N name v) Q E s := by
  unfold nsSet strHash
  refine wpAny_bind (wpAny_bind (wpAny_askSetting (wpAny_pure (wpAny_bind (wpAny_mkText ?_)))))
  refine wpAny_bind (wpAny_loadPart hi ?_)
  rw [hd]
  dsimp only
  rw [hr]
  exact wpAny_updatePart hi (x _ (Heap.get?_update_self _ hi (hf _ _)) (Heap.SameBut.update ..))
theorem cst {env : Env} {name : Str} {v : Value} {o : Obj} {es : Array DictEntry} {n : Nat} {Q : Unit → Shared → Prop} (hs : storeName env name v = localSet env name v) (hi : s.heap.get? env.locals = some o) (hc : o.cls = .type "dict") (hd : o.data = .dict es n) (hr : aRefKeyMayBeTheName name es = false)
    (hf : ∀ hs key, (Obj.putName name hs key v o).isFreed = false)
    (x : ∀ h', h'.get? env.locals = some (Obj.putName name (hashOf w name) (.str name s.toks) v o) → Heap.SameBut env.locals s.heap h' → Q () { s with heap := h', toks := s.toks + 1 }) : wpAny (model prog w) A (storeName env name v) Q E s := by
  rw [hs]
  unfold localSet
  refine wpAny_bind (wpAny_load hi ?_)
  rw [hc]
  exact nsSet_at hi hd hr hf x
/-- a def in the class's body -/
theorem cdef {g : Heap} {N P cell cc fr : Addr} {es : Array DictEntry} {nd : Nat} {fs : List (Addr × Obj)} {cr : List (Value × Str)} {done : List Pos} {mg : Str → Option Value} {name qual : Str} {params : Arguments} {body : List Stmt} {scope : Scope} {pos : Pos} {clos : List (Str × Addr)} {Q : Flow → Shared → Prop}
    (B : Bd g s.heap N P es nd fs cr done) (hG : g.Ns mainGlobals mg) (C : CodeHd g cc P) (hb : ∃ bm ob, mg "__builtins__" = some (.ref bm) ∧ bm ≠ builtinsNs ∧ g.get? bm = some ob ∧ ob.cls = .type "module" ∧ ob.dict = some builtinsNs ∧ ob.data = .plain)
    (hd0 : params.defaults = []) (hk0 : params.kw_defaults = []) (ha : annTrees params none (cEnv N cell cc fr) = [])
    (hq : qualnameIn (cEnv N cell cc fr) name name = qual) (hcl : closureFor scope (cEnv N cell cc fr) = pure clos) (hK : (pos, qual) ∈ K6) (hK' : ∀ p ∈ K6, p.1.line = pos.line → p.1.col = pos.col → p.2 = qual)
    (hs : ∀ v, storeName (cEnv N cell cc fr) name v = localSet (cEnv N cell cc fr) name v) (hr : aRefKeyMayBeTheName name es = false)
    (hp : ∀ hs key v, Obj.putName name hs key v { cls := .type "dict", data := .dict es nd } = { cls := .type "dict", data := .dict (es.push ⟨hs, key, v⟩) (nd + 1) })
    (h : ∀ f doc cv ctv h' tk t,
      Bd g h' N P (es.push ⟨hashOf w name, .str name t, .ref f⟩) (nd + 1) ((f, { cls := .type "function", data := .func (fnX name (qual) params body scope clos .none .none doc ((mg "__name__").getD .none) none cv ctv) }) :: fs) ((cv, qual) :: cr) (pos :: done) → Q .next { s with heap := h', toks := tk }) :
    wpAny (model prog w) A (exec (.FunctionDef name params body [] none [] scope none name pos) (cEnv N cell cc fr)) Q E s := by
  refine nestDef_K hd0 hk0 ha ?_
  rw [hq]
  refine makeF hcl rfl (hG.keeps B.kp) rfl (C.keeps B.kp) B.tab hK hK' (let ⟨bm, ob, a1, a2, a3, r⟩ := hb; ⟨bm, ob, a1, a2, B.kp _ _ a3, r⟩) ?_
  intro f h' tk doc cv ctv hfr k1 k2 T ef hrec hsz
  have nP : ∀ b o, s.heap.get? b = some o → o.cls ≠ .none → h'.get? b = some o := fun b o e q => k1 b o (fun z => by
    obtain ⟨ps, e1, _⟩ := B.tab; rw [z, e1] at e; cases e; exact q rfl) e
  have B' : Bd g h' N P es nd ((f, { cls := .type "function", data := .func (fnX name (qual) params body scope clos .none .none doc ((mg "__name__").getD .none) none cv ctv) }) :: fs) ((cv, qual) :: cr) (pos :: done) := by
    refine ⟨nP _ _ B.ns (by intro q; cases q), fun b o e => ?_, B.gN, ?_, T, fun p hp => ?_, fun p hp => ?_⟩
    · rcases B.gP with q | q
      · exact k1 b o (fun z => by rw [z, q] at e; cases e) (B.kp b o e)
      · exact k2 (q _ hK) b o (B.kp b o e)
    · rcases B.gP with q | q
      · exact .inl q
      · exact .inr fun p hp => .tail _ (q p hp)
    · rcases List.mem_cons.mp hp with rfl | hp
      · exact ⟨ef, pl_fn⟩
      · exact ⟨nP _ _ (B.fs p hp).1 (B.fs p hp).2.1, (B.fs p hp).2⟩
    · rcases List.mem_cons.mp hp with rfl | hp
      · exact hrec
      · obtain ⟨ps, e1, e2, _⟩ := B.tab
        exact codeRec_tab (B.cr p hp) e1 e2 fun b o hb e => k1 b o hb e
  refine cst (hs _) B'.ns rfl rfl hr (fun _ _ => by rw [hp]; rfl) ?_
  intro h'' e'' hs''
  rw [hp] at e''
  exact h f doc cv ctv h'' _ _ (B'.store e'' hs'')
end
end Mine

end
section
open PySem PySem.W PySem.W.X PyProof.Rows Builtin
set_option linter.unusedVariables false
namespace Mine
set_option maxRecDepth 100000
noncomputable abbrev en (w : World) (name : Str) (t : Tok) (v : Value) : DictEntry := ⟨hashOf w name, .str name t, v⟩
/-- the namespace, as far as it is filled -/
noncomputable def nsK (w : World) (tk : Nat → Tok) (mo qu fi : Value) (sl : Addr) (f : Nat → Addr) (st : Addr) : Array DictEntry :=
  nsEs (fun i => hashOf w (match i with | 0 => "__module__" | 1 => "__qualname__" | 2 => "__firstlineno__" | 3 => "__slots__" | 4 => "__init__" | 5 => "__lt__" | 6 => "__gt__" | 7 => "__eq__" | 8 => "__le__" | 9 => "__ge__" | 10 => "__hash__" | _ => "__static_attributes__")) tk mo qu fi sl f st
noncomputable abbrev gtD : Arguments × List Stmt × Scope := innerAt clsBody 4
noncomputable abbrev eqD : Arguments × List Stmt × Scope := innerAt clsBody 5
noncomputable abbrev leD : Arguments × List Stmt × Scope := innerAt clsBody 6
noncomputable abbrev geD : Arguments × List Stmt × Scope := innerAt clsBody 7
noncomputable abbrev fnO (name qual : Str) (d : Arguments × List Stmt × Scope) (cl : List (Str × Addr)) (doc pm cv ct : Value) : Obj := { cls := .type "function", data := .func (fnX name qual d.1 d.2.1 d.2.2 cl .none .none doc pm none cv ct) }
set_option maxHeartbeats 1000000 in
theorem cbody {w : World} {A : Around} {E : Value → Shared → Prop} {Q : Flow → Shared → Prop} {s : Shared} {g : Heap} {N P cell cc fr : Addr} {done : List Pos} {mg : Str → Option Value} {t0 t1 t2 : Tok} {mv qu fi : Value}
    (B : Bd g s.heap N P #[en w "__module__" t0 mv, en w "__qualname__" t1 qu, en w "__firstlineno__" t2 fi] 3 [] [] done) (hG : g.Ns mainGlobals mg) (C : CodeHd g cc P)
    (hb : ∃ bm ob, mg "__builtins__" = some (.ref bm) ∧ bm ≠ builtinsNs ∧ g.get? bm = some ob ∧ ob.cls = .type "module" ∧ ob.dict = some builtinsNs ∧ ob.data = .plain)
    (h : ∀ (sl : Addr) (f : Nat → Addr) (tm ts : Tok) (h' : Heap) (tk : Nat) (t3 t4 t5 t6 t7 t8 t9 t10 : Tok) (doc cv ct : Nat → Value),
      Bd g h' N P #[en w "__module__" t0 (.str "cpy313.functools" tm), en w "__qualname__" t1 qu, en w "__firstlineno__" t2 fi, en w "__slots__" t3 (.ref sl), en w "__init__" t4 (.ref (f 0)), en w "__lt__" t5 (.ref (f 1)), en w "__gt__" t6 (.ref (f 2)),
          en w "__eq__" t7 (.ref (f 3)), en w "__le__" t8 (.ref (f 4)), en w "__ge__" t9 (.ref (f 5)), en w "__hash__" t10 .none] 11
        [(f 5, fnO "__ge__" "cmp_to_key.<locals>.K.__ge__" geD [("mycmp", cell)] (doc 5) ((mg "__name__").getD .none) (cv 5) (ct 5)), (f 4, fnO "__le__" "cmp_to_key.<locals>.K.__le__" leD [("mycmp", cell)] (doc 4) ((mg "__name__").getD .none) (cv 4) (ct 4)),
          (f 3, fnO "__eq__" "cmp_to_key.<locals>.K.__eq__" eqD [("mycmp", cell)] (doc 3) ((mg "__name__").getD .none) (cv 3) (ct 3)), (f 2, fnO "__gt__" "cmp_to_key.<locals>.K.__gt__" gtD [("mycmp", cell)] (doc 2) ((mg "__name__").getD .none) (cv 2) (ct 2)),
          (f 1, fnO "__lt__" "cmp_to_key.<locals>.K.__lt__" ltD [("mycmp", cell)] (doc 1) ((mg "__name__").getD .none) (cv 1) (ct 1)), (f 0, fnO "__init__" "cmp_to_key.<locals>.K.__init__" iniD [] (doc 0) ((mg "__name__").getD .none) (cv 0) (ct 0)),
          (sl, { cls := .type "list", data := .seq #[.str "obj" ts] })]
        [(cv 5, "cmp_to_key.<locals>.K.__ge__"), (cv 4, "cmp_to_key.<locals>.K.__le__"), (cv 3, "cmp_to_key.<locals>.K.__eq__"), (cv 2, "cmp_to_key.<locals>.K.__gt__"), (cv 1, "cmp_to_key.<locals>.K.__lt__"), (cv 0, "cmp_to_key.<locals>.K.__init__")]
        (⟨78, 8, 79, 50⟩ :: ⟨75, 8, 76, 50⟩ :: ⟨72, 8, 73, 50⟩ :: ⟨69, 8, 70, 49⟩ :: ⟨66, 8, 67, 49⟩ :: ⟨63, 8, 64, 26⟩ :: done) → Q .next { s with heap := h', toks := tk }) :
    wpAny (model prog w) A (execs clsBody (cEnv N cell cc fr)) Q E s := by
  refine wpAny_execs_cons (wpAny_Assign_Name (wpAny_Constant_str (cst (by kernel_rfl) B.ns rfl rfl (by kernel_rfl) (fun _ _ => by kernel_rfl) ?_)))
  intro h₁ e₁ s₁
  replace B := B.store (es' := #[en w "__module__" t0 (.str "cpy313.functools" s.toks), en w "__qualname__" t1 qu, en w "__firstlineno__" t2 fi]) (nd' := 3) (e₁.trans (by kernel_rfl)) s₁
  clear e₁ s₁
  dsimp only
  refine wpAny_execs_cons (wpAny_Assign_Name (List_ (args_cons (wpAny_Constant_str (args_nil (wpAny_newObj_type ?_ (by show (1 : Nat) ≤ sizeLine; decide)))))))
  have B2 := B.push { cls := .type "list", data := .seq #[.str "obj" (s.toks + 1 + 1)] } rfl ⟨(by intro q; cases q), (by intro _ _ q; cases q)⟩
  replace B := B2
  clear B2
  generalize h₁.push _ = h₂ at B ⊢
  generalize h₁.objs.size = sl at B ⊢
  refine cst (by kernel_rfl) B.ns rfl rfl (by kernel_rfl) (fun _ _ => by kernel_rfl) ?_
  intro h₃ e₃ s₃
  replace B := B.store (es' := #[en w "__module__" t0 (.str "cpy313.functools" s.toks), en w "__qualname__" t1 qu, en w "__firstlineno__" t2 fi, en w "__slots__" (s.toks + 1 + 1 + 1) (.ref sl)]) (nd' := 4) (e₃.trans (by kernel_rfl)) s₃
  clear e₃ s₃
  dsimp only
  refine wpAny_execs_cons (cdef (qual := "cmp_to_key.<locals>.K.__init__") (clos := []) B hG C hb rfl rfl rfl (by kernel_rfl) (by kernel_rfl) (by decide +kernel) (by decide +kernel) (fun _ => by kernel_rfl) (by kernel_rfl) (fun _ _ _ => by kernel_rfl) ?_)
  clear B
  intro f0 doc0 cv0 ct0 h₄ tk0 t_0 B
  dsimp only
  refine wpAny_execs_cons (cdef (qual := "cmp_to_key.<locals>.K.__lt__") (clos := [("mycmp", cell)]) B hG C hb rfl rfl rfl (by kernel_rfl) (by kernel_rfl) (by decide +kernel) (by decide +kernel) (fun _ => by kernel_rfl) (by kernel_rfl) (fun _ _ _ => by kernel_rfl) ?_)
  clear B
  intro f1 doc1 cv1 ct1 h₄ tk1 t_1 B
  dsimp only
  refine wpAny_execs_cons (cdef (qual := "cmp_to_key.<locals>.K.__gt__") (clos := [("mycmp", cell)]) B hG C hb rfl rfl rfl (by kernel_rfl) (by kernel_rfl) (by decide +kernel) (by decide +kernel) (fun _ => by kernel_rfl) (by kernel_rfl) (fun _ _ _ => by kernel_rfl) ?_)
  clear B
  intro f2 doc2 cv2 ct2 h₄ tk2 t_2 B
  dsimp only
  refine wpAny_execs_cons (cdef (qual := "cmp_to_key.<locals>.K.__eq__") (clos := [("mycmp", cell)]) B hG C hb rfl rfl rfl (by kernel_rfl) (by kernel_rfl) (by decide +kernel) (by decide +kernel) (fun _ => by kernel_rfl) (by kernel_rfl) (fun _ _ _ => by kernel_rfl) ?_)
  clear B
  intro f3 doc3 cv3 ct3 h₄ tk3 t_3 B
  dsimp only
  refine wpAny_execs_cons (cdef (qual := "cmp_to_key.<locals>.K.__le__") (clos := [("mycmp", cell)]) B hG C hb rfl rfl rfl (by kernel_rfl) (by kernel_rfl) (by decide +kernel) (by decide +kernel) (fun _ => by kernel_rfl) (by kernel_rfl) (fun _ _ _ => by kernel_rfl) ?_)
  clear B
  intro f4 doc4 cv4 ct4 h₄ tk4 t_4 B
  dsimp only
  refine wpAny_execs_cons (cdef (qual := "cmp_to_key.<locals>.K.__ge__") (clos := [("mycmp", cell)]) B hG C hb rfl rfl rfl (by kernel_rfl) (by kernel_rfl) (by decide +kernel) (by decide +kernel) (fun _ => by kernel_rfl) (by kernel_rfl) (fun _ _ _ => by kernel_rfl) ?_)
  clear B
  intro f5 doc5 cv5 ct5 h₄ tk5 t_5 B
  dsimp only
  refine wpAny_execs_cons (wpAny_Assign_Name (wpAny_Constant_none (cst (by kernel_rfl) B.ns rfl rfl (by kernel_rfl) (fun _ _ => by kernel_rfl) ?_)))
  intro h₅ e₅ s₅
  replace B := B.store (es' := #[en w "__module__" t0 (.str "cpy313.functools" s.toks), en w "__qualname__" t1 qu, en w "__firstlineno__" t2 fi, en w "__slots__" (s.toks + 1 + 1 + 1) (.ref sl), en w "__init__" t_0 (.ref f0), en w "__lt__" t_1 (.ref f1), en w "__gt__" t_2 (.ref f2),
          en w "__eq__" t_3 (.ref f3), en w "__le__" t_4 (.ref f4), en w "__ge__" t_5 (.ref f5), en w "__hash__" tk5 .none]) (nd' := 11) (e₅.trans (by kernel_rfl)) s₅
  exact wpAny_execs_nil (h sl (fun i => match i with | 0 => f0 | 1 => f1 | 2 => f2 | 3 => f3 | 4 => f4 | _ => f5) s.toks (s.toks + 1 + 1) h₅ _ (s.toks + 1 + 1 + 1) t_0 t_1 t_2 t_3 t_4 t_5 tk5 (fun i => match i with | 0 => doc0 | 1 => doc1 | 2 => doc2 | 3 => doc3 | 4 => doc4 | _ => doc5) (fun i => match i with | 0 => cv0 | 1 => cv1 | 2 => cv2 | 3 => cv3 | 4 => cv4 | _ => cv5) (fun i => match i with | 0 => ct0 | 1 => ct1 | 2 => ct2 | 3 => ct3 | 4 => ct4 | _ => ct5) B)
end Mine

end
section
open PySem PySem.W PySem.W.X PyProof.Rows Builtin
set_option linter.unusedVariables false
namespace Mine
set_option maxRecDepth 100000
noncomputable def posK : Pos := ⟨59, 4, 80, 23⟩
noncomputable def quK : Str := "cmp_to_key.<locals>.K"
/-- what the code table of cmp_to_key holds -/
noncomputable def ClsTab (h : Heap) : Prop := ∃ ps, h.get? 76 = some (tabObj ps) ∧ TriplesOk ps.toList ∧ ∀ cv, codeAmong posK ps.toList = some cv →
  ∃ cc P, cv = .ref cc ∧ CodeHd h cc P ∧ h.CodeRec (.ref cc) quK ∧ TabAt h P K6 (K6.map (·.1)) ∧ P ≠ 76 ∧ P ≠ 90
theorem codeHd_cd {h h' : Heap} {c P : Addr} {q : Str} (C : CodeHd h c P) (R : h.CodeRec (.ref c) q) (k : ∀ b o, IsCd o → h.get? b = some o → h'.get? b = some o) : CodeHd h' c P := by
  obtain ⟨c', o, vs, t, e1, e2, e3, e4⟩ := R
  cases e1
  obtain ⟨o', vs', file, tf, flags, tg, inF, text, tt, e, r⟩ := C
  rw [e2] at e
  cases e
  exact ⟨o, vs', file, tf, flags, tg, inF, text, tt, k _ _ (.inr ⟨vs, q, t, e3, e4⟩) e2, r⟩
theorem ClsTab.cd {h h' : Heap} (x : ClsTab h) (k : ∀ b o, IsCd o → h.get? b = some o → h'.get? b = some o) : ClsTab h' := by
  obtain ⟨ps, e, t, r⟩ := x
  refine ⟨ps, k _ _ (.inl ⟨ps, rfl⟩) e, t, fun cv hc => ?_⟩
  obtain ⟨cc, P, e1, e2, e3, e4, e5⟩ := r cv hc
  exact ⟨cc, P, e1, codeHd_cd e2 e3 k, codeRec_cd e3 k, e4.cd k, e5⟩
section
variable {w : World} {A : Around} {E : Value → Shared → Prop} {s : Shared}
/-- the class's code, found or made -/
theorem classCode1 {env : Env} {Q : Value → Shared → Prop} (hc : env.code = .ref 80) (C : CodeHd s.heap 80 76) (T : ClsTab s.heap) (h90 : ∃ o, s.heap.get? 90 = some o)
    (h : ∀ cc P h' tk, (∀ b o, b ≠ 76 → s.heap.get? b = some o → h'.get? b = some o) → s.heap.objs.size ≤ h'.objs.size → CodeHd h' cc P → h'.CodeRec (.ref cc) quK → cc ≠ 76 → (P ≠ 76 ∧ P ≠ 90) →
      (∃ ps, h'.get? 76 = some (tabObj ps) ∧ TriplesOk ps.toList ∧ codeAmong posK ps.toList = some (.ref cc)) → ((s.heap.get? P = none ∧ TabAt h' P K6 []) ∨ TabAt h' P K6 (K6.map (·.1))) → Q (.ref cc) { s with heap := h', toks := tk }) :
    wpAny (model prog w) A (classCode env posK 59 "K" quK clsSco) Q E s := by
  obtain ⟨ps, hP, ht, hr⟩ := T
  have rec76 : ∀ {h' : Heap} {q : Str} {cc : Addr} {ps : Array Value}, h'.get? 76 = some (tabObj ps) → TriplesOk ps.toList → h'.CodeRec (.ref cc) q → cc ≠ 76 := by
    rintro h' q cc ps e1 e2 ⟨c, o, vs, t, e3, e4, e5, e6⟩ rfl
    cases e3
    rw [e1] at e4
    cases e4
    cases e5
    rw [← Array.getElem?_toList] at e6
    exact triples_no_str e2 _ _ e6
  cases hq : codeAmong posK ps.toList with
  | some cv =>
    obtain ⟨cc, P, rfl, e2, e3, e4, e5⟩ := hr cv hq
    refine wpAny_codeAt_hit hc (C.code hP ht) hq ?_
    exact h cc P s.heap s.toks (fun _ _ _ e => e) (Nat.le_refl _) e2 e3 (rec76 hP ht e3) e5 ⟨ps, hP, ht, hq⟩ (.inr e4)
  | none =>
    obtain ⟨o, vs, file, tf, flags, tg, inF, text, tt, ho, hcl, hd, h11, h11', h18, h7, h9, h10, hne⟩ := id C
    unfold classCode codeAt
    rw [hc, if_neg (show ¬ ((Value.ref 80 == Value.none) = true) from Bool.false_ne_true)]
    refine wpAny_bind (wpAny_fieldsOf ho hd ?_)
    rw [h11']
    refine wpAny_bind (wpAny_fieldsOf hP rfl ?_)
    rw [hq, h18, h7, h9, h10]
    refine wpAny_bind (wpAny_newCodeX fun c' P' h' tk hk hc' hP' hcode' htab' hrec' => ?_)
    have hop := hk _ _ hP
    refine wpAny_bind (wpAny_updateFieldsOfTheText hop rfl ?_)
    have hget : (h'.update 76 (Obj.mapFields (fun vs => if (codeAmong posK vs.toList).isSome = true then vs else vs ++ #[rawInt posK.line, rawInt posK.col, .ref c']))).get? 76 = some (tabObj (ps ++ #[rawInt posK.line, rawInt posK.col, .ref c'])) := by
      rw [Heap.get?_update_self _ hop]
      · simp only [Obj.mapFields, hq]; rfl
      · simp only [Obj.mapFields, hq]; rfl
    refine wpAny_bind (wpAny_fieldsOf hget rfl ?_)
    have hl : (ps ++ #[rawInt posK.line, rawInt posK.col, Value.ref c']).toList = ps.toList ++ [rawInt posK.line, rawInt posK.col, .ref c'] := by simp
    rw [hl, codeAmong_snoc _ ht hq]
    have l76 := Heap.lt_size hP
    have kk : ∀ b o, b ≠ 76 → h'.get? b = some o → (h'.update 76 (Obj.mapFields (fun vs => if (codeAmong posK vs.toList).isSome = true then vs else vs ++ #[rawInt posK.line, rawInt posK.col, .ref c']))).get? b = some o :=
      fun b o hb e => ((Heap.SameBut.update ..).2 b hb).trans e
    have c76 : c' ≠ 76 := Nat.ne_of_gt (Nat.lt_of_lt_of_le l76 hc')
    have p76 : P' ≠ 76 := Nat.ne_of_gt (Nat.lt_of_lt_of_le l76 hP')
    have p90 : P' ≠ 90 := Nat.ne_of_gt (Nat.lt_of_lt_of_le (let ⟨_, e⟩ := h90; Heap.lt_size e) hP')
    refine wpAny_pure (h c' P' _ _ (fun b o hb e => kk b o hb (hk b o e)) (by rw [Heap.size_after_update]; exact Nat.le_trans hc' (Nat.le_of_lt hcode'.lt.1)) ?_ ?_ c76 ⟨p76, p90⟩ ⟨_, hget, by rw [hl]; exact TriplesOk_snoc _ _ _ _ ht, by rw [hl]; exact codeAmong_snoc _ ht hq⟩ (.inl ⟨?_, ?_⟩))
    · obtain ⟨o, vs, file, tf, flags, tg, inF, text, tt, e, r⟩ := CodeHd.of hcode' htab'
      exact ⟨o, vs, file, tf, flags, tg, inF, text, tt, kk _ _ c76 e, r⟩
    · obtain ⟨c₂, o₂, vs₂, t₂, e₂, g₂, r₂⟩ := hrec'
      cases e₂
      exact ⟨_, o₂, vs₂, t₂, rfl, kk _ _ c76 g₂, r₂⟩
    · exact Heap.get?_none_of_le hP'
    · exact ⟨#[], kk _ _ p76 htab'.2, trivial, fun p hp cv hc => by simp [codeAmong] at hc, fun p hp => by cases hp⟩
end
end Mine

end
section
open PySem PySem.W PySem.W.X PyProof.Rows Builtin
set_option linter.unusedVariables false
namespace Mine
set_option maxRecDepth 100000
theorem bc_isT : isType (.type "type") = pure true := by kernel_rfl
theorem bc_gi : typeLookup (.type "dict") "__getitem__" = pure (some (.builtin "dict.__getitem__")) := by kernel_rfl
theorem bc_clos (L cell : Addr) : closureFor clsSco (envX "cmp_to_key" (scoAt 10) L 81 (.ref 80) [("mycmp", cell)]) = pure [(Str.ofString "mycmp", cell)] := by kernel_rfl
theorem bc_blk (N cell cc fr : Addr) : blockStart clsBody (cEnv N cell cc fr) = pure () := by kernel_rfl
theorem cload {w : World} {A : Around} {E Q : Value → Shared → Prop} {s : Shared} {N cell cc fr : Addr} {mg : Str → Option Value} {nv : Value} {nd : Nat} (eN : s.heap.get? N = some { cls := .type "dict", data := .dict #[] nd }) (hG : s.heap.Ns mainGlobals mg) (hn : mg "__name__" = some nv) (h : Q nv s) :
    wpAny (model prog w) A (loadName (cEnv N cell cc fr) "__name__") Q E s := by
  iterate 60 try first
    | with_reducible refine nd_pure ?_
    | ((with_reducible show wpAny _ _ (nsGet mainGlobals _) _ _ _); refine wpAny_nsGet hG ?_; rw [hn])
    | ((with_reducible show wpAny _ _ (nsGet _ _) _ _ _); first | refine nsGet_at eN (r := none) (by kernel_rfl) ?_ | (refine wpAny_nsGet hG ?_; rw [hn]))
    | with_reducible refine nd_load eN ?_
    | exact h
    | lk
    | refine ite_b0 (by kernel_rfl) ?_
    | refine ite_b1 (by kernel_rfl) ?_
  done
theorem codeHd_ne {h : Heap} {cc P : Addr} (x : CodeHd h cc P) : cc ≠ P := by
  obtain ⟨_, _, _, _, _, _, _, _, _, _, _, _, _, _, _, _, _, _, y⟩ := x
  exact y
theorem below6 {P : Nat → Prop} (h0 : P 0) (h1 : P 1) (h2 : P 2) (h3 : P 3) (h4 : P 4) (h5 : P 5) : ∀ i, i < 6 → P i := fun i hi =>
  (Nat.lt_succ_iff_lt_or_eq.mp hi).elim (fun hi => (Nat.lt_succ_iff_lt_or_eq.mp hi).elim (fun hi => (Nat.lt_succ_iff_lt_or_eq.mp hi).elim (fun hi => (Nat.lt_succ_iff_lt_or_eq.mp hi).elim (fun hi => (Nat.lt_succ_iff_lt_or_eq.mp hi).elim
    (fun hi => (Nat.lt_succ_iff_lt_or_eq.mp hi).elim (fun hi => absurd hi (Nat.not_lt_zero i)) fun e => e.symm ▸ h0) fun e => e.symm ▸ h1) fun e => e.symm ▸ h2) fun e => e.symm ▸ h3) fun e => e.symm ▸ h4) fun e => e.symm ▸ h5
/-- the class, made -/
structure KRes (h : Heap) (C nsA mdA ltA iniA cell : Addr) : Prop where
  cls : ∃ sl, h.get? C = some ⟨.type "type", none, .cls (kCd C nsA), sl⟩ ∧ (sl.toList[4]?).join = some (.builtin "object.__new__")
  ns : ∃ o, h.get? nsA = some o ∧ (∃ es n, o.data = .dict es n) ∧ lookIn "__lt__" o = some (some (.ref ltA)) ∧ lookIn "obj" o = some (some (.ref mdA)) ∧ lookIn "__init__" o = some (some (.ref iniA)) ∧
    lookIn "__getattribute__" o = some none ∧ lookIn "__getattr__" o = some none ∧ lookIn "__setattr__" o = some none
  md : ∃ tn, h.get? mdA = some { cls := .type "member_descriptor", data := .fields #[.str "obj" tn, .ref C, .builtin "proto.slot", .builtin "proto.slot#set", .int 0 0] }
  lt : KFn h ltA "__lt__" "cmp_to_key.<locals>.K.__lt__" ltD [("mycmp", cell)]
  ini : KFn h iniA "__init__" "cmp_to_key.<locals>.K.__init__" iniD []
  apart : ltA ≠ iniA
noncomputable def nmI (i : Nat) : Str := match i with | 0 => "__module__" | 1 => "__qualname__" | 2 => "__firstlineno__" | 3 => "__slots__" | 4 => "__init__" | 5 => "__lt__" | 6 => "__gt__" | 7 => "__eq__" | 8 => "__le__" | 9 => "__ge__" | 10 => "__hash__" | _ => "__static_attributes__"
noncomputable def tkI (a b c d e f g h i j k l : Tok) (n : Nat) : Tok := match n with | 0 => a | 1 => b | 2 => c | 3 => d | 4 => e | 5 => f | 6 => g | 7 => h | 8 => i | 9 => j | 10 => k | _ => l
set_option maxHeartbeats 1000000 in
theorem bc1 {w : World} {A : Around} {E Q : Value → Shared → Prop} {s : Shared} {L cell : Addr} {mg : Str → Option Value} {nv : Value}
    (hd : A.depth < recursionLimit) (hG : s.heap.Ns mainGlobals mg) (hb : ∃ bm ob, mg "__builtins__" = some (.ref bm) ∧ bm ≠ builtinsNs ∧ s.heap.get? bm = some ob ∧ ob.cls = .type "module" ∧ ob.dict = some builtinsNs ∧ ob.data = .plain)
    (hn : mg "__name__" = some nv) (C : CodeHd s.heap 80 76) (T : ClsTab s.heap) (h90 : ∃ o, s.heap.get? 90 = some o) (lim : s.heap.NoLimit) (e2 : ∃ o2, s.heap.get? cStatics = some o2 ∧ lookIn "thirdparty.any" o2 = some none) (eSys : ∃ o, s.heap.get? sysModules = some o)
    (h : ∀ C ns md lt ini h' tk, (∀ b o, b ≠ 76 → s.heap.get? b = some o → h'.get? b = some o) → ClsTab h' → KRes h' C ns md lt ini cell → Q (.ref C) { s with heap := h', toks := tk }) :
    wpAny (model prog w) A (buildClass "K" quK [.type "object"] [] clsBody clsSco ["obj"] 59 (envX "cmp_to_key" (scoAt 10) L 81 (.ref 80) [("mycmp", cell)]) posK none) Q E s := by
  obtain ⟨bm, ob, b1, b2, b3, b4, b5, b6⟩ := hb
  obtain ⟨o2, e2, l2⟩ := e2
  obtain ⟨h0, g, d, t, os⟩ := s
  dsimp only at *
  unfold buildClass
  refine wpAny_bind (wpAny_newTuple ?_)
  have eT : (h0.push { cls := .type "tuple", data := .seq [Value.type "object"].toArray }).get? h0.objs.size = some { cls := .type "tuple", data := .seq #[.type "object"] } := Heap.get?_push_size _ rfl
  have kp1 : ∀ b o, h0.get? b = some o → (h0.push { cls := .type "tuple", data := .seq [Value.type "object"].toArray }).get? b = some o := fun b o e => Heap.get?_push_of_some _ e
  generalize h0.objs.size = Ta at eT ⊢
  generalize h0.push _ = h1 at eT kp1 ⊢
  iterate 90 try first
    | with_reducible refine nd_pure ?_
    | with_reducible refine of_pu tn_isT ?_
    | with_reducible refine of_pu bc_isT ?_
    | with_reducible refine of_pu tn_ty ?_
    | with_reducible refine of_pu tn_sub ?_
    | ((with_reducible show wpAny _ _ (getAttr? _ _) _ _ _); refine prep1 ?_; intro a h2 D)
    | ((with_reducible show wpAny _ _ (call (.ref _) _ _) _ _ _); refine prep2 (D.at 0 _ _ rfl) (D.keep _ _ eT (by simp [away])) ?_; intro N h3 D3)
    | ((with_reducible show wpAny _ _ (notTheModulesDict _ _) _ _ _); exact wpAny_mono (Q := fun _ s' => s' = _) ?m1 ?m2 ?m3)
    | ((with_reducible show wpAny _ _ (specialOf _ _) _ _ _); refine special_ref (D3.at 0 _ _ rfl) bc_gi ?_)
    | lk
  have kp : ∀ b o, h0.get? b = some o → h3.get? b = some o := fun b o e => D3.keep _ _ (D.keep _ _ (kp1 b o e) (by simp [away])) (by simp [away])
  have eN := D3.at 0 _ _ rfl
  have eT3 := D3.keep _ _ (D.keep _ _ eT (by simp [away])) (by simp [away])
  have fN : ∀ b o, h0.get? b = some o → b ≠ N := fun b o e q => by
    have := (D3.nw _ (.head _)).2
    rw [← q, D.keep _ _ (kp1 b o e) (by simp [away])] at this
    cases this
  have hN : N ≠ sysModules := fun q => by obtain ⟨o, e⟩ := eSys; exact fN _ _ e q.symm
  have TN : Ta ≠ N := fun q => by rw [q, eN] at eT3; exact absurd (congrArg Obj.cls (Option.some.inj eT3)) (by decide)
  clear D D3 kp1 eT
  refine ite_no (fun q => hN (beq_iff_eq.mp q)) ?_
  have hG3 := hG.keeps kp
  have T3 := T.cd fun b o _ e => kp b o e
  have C3 := C.keeps kp
  have h903 : ∃ o, h3.get? 90 = some o := let ⟨o, e⟩ := h90; ⟨o, kp _ _ e⟩
  iterate 40 try first
    | with_reducible refine nd_pure ?_
    | ((with_reducible show wpAny _ _ (specialOf _ _) _ _ _); refine special_ref eN bc_gi ?_)
    | ((with_reducible show wpAny _ _ (classCode _ _ _ _ _ _) _ _ _); refine classCode1 rfl C3 T3 h903 ?_; intro cc P h4 tk4 k4 sz4 C4 R4 c76 p7690 T4 TB)
    | ((with_reducible show wpAny _ _ (builtinsFor _ _) _ _ _))
    | lk
    | refine ite_b0 (by kernel_rfl) ?_
  have ne76 : mainGlobals ≠ 76 := by decide
  have p76 := p7690.1
  have hG4 : h4.Ns mainGlobals mg := hG3.extBut k4 ne76
  have bm76 : bm ≠ 76 := fun q => by
    obtain ⟨ps, z, _⟩ := T
    rw [q, z] at b3; cases b3; cases b4
  have N76 : N ≠ 76 := fun q => by
    obtain ⟨ps, z, _⟩ := T
    exact fN _ _ z q.symm
  have eN4 := k4 _ _ N76 eN
  have kp4 : ∀ b o, b ≠ 76 → h0.get? b = some o → h4.get? b = some o := fun b o hb e => k4 _ _ hb (kp b o e)
  refine wpAny_builtinsFor hG4 b1 b2 (kp4 _ _ bm76 b3) b4 b5 b6 ?_
  refine wpAny_bind ?_
  unfold newBodyFrame
  refine wpAny_bind (wpAny_nsGet hG4 ?_)
  refine wpAny_alloc ?_
  refine wpAny_bind (of_pu (bc_clos L cell) ?_)
  refine wpAny_holding (wpAny_bind (wpAny_enterFrame ?_ hd ?_))
  · obtain ⟨mc, l1, l2⟩ := lim
    exact ⟨mc, ((l1.keeps kp).extBut k4 (by decide)).push _, l2⟩
  dsimp only
  generalize hfr : h4.objs.size = fr
  generalize h5e : h4.push _ = h5
  have kp5 : ∀ b o, h4.get? b = some o → h5.get? b = some o := fun b o e => h5e ▸ Heap.get?_push_of_some _ e
  clear h5e hfr
  have eN5 := kp5 _ _ eN4
  have hG5 := hG4.keeps kp5
  have C5 := C4.keeps kp5
  have R5 := R4.keeps kp5
  have eT5 : h5.get? Ta = some { cls := .type "tuple", data := .seq #[.type "object"] } := kp5 _ _ (k4 _ _ (fun q => by
    obtain ⟨ps, z, _⟩ := T3
    rw [q, z] at eT3; cases eT3) eT3)
  refine hideP fun Z1 hZ1 => ?_
  obtain ⟨G, done0, B, kG1, kG0⟩ : ∃ G done0, Bd G h5 N P #[] 0 [] [] done0 ∧ (∀ b o, h5.get? b = some o → b ≠ N → b ≠ P → G.get? b = some o) ∧ (∀ b o, h0.get? b = some o → b ≠ 76 → G.get? b = some o) := by
    rcases TB with ⟨pn, tb⟩ | tb
    · refine ⟨hideAll h5 [N, P], [], ⟨eN5, fun _ _ e => of_hideAll _ e, hideAll_none _ (by simp), .inl (hideAll_none _ (by simp)), tb.keeps kp5, fun _ hp => (nomatch hp), fun _ hp => (nomatch hp)⟩, fun b o e n1 n2 => hideAll_get _ e (by simp [n1, n2]), fun b o e n1 => hideAll_get _ (kp5 _ _ (kp4 b o n1 e)) ?_⟩
      exact nm1 (fN _ _ e) (nm1 (fun q => by rw [← q, kp b o e] at pn; cases pn) nm0)
    · refine ⟨hideAll h5 [N], K6.map (·.1), ⟨eN5, fun _ _ e => of_hideAll _ e, hideAll_none _ (by simp), .inr (fun p hp => List.mem_map_of_mem hp), tb.keeps kp5, fun _ hp => (nomatch hp), fun _ hp => (nomatch hp)⟩, fun b o e n1 n2 => hideAll_get _ e (by simp [n1]), fun b o e n1 => hideAll_get _ (kp5 _ _ (kp4 b o n1 e)) ?_⟩
      exact nm1 (fN _ _ e) nm0
  obtain ⟨ps4, p41, p42, p43⟩ := T4
  refine hZ1 ?_
  clear hZ1 Z1
  have GG : G.Ns mainGlobals mg := let ⟨o, es, ep, e, r⟩ := hG; ⟨o, es, ep, kG0 _ _ e ne76, r⟩
  have Gb : ∃ bm ob, mg "__builtins__" = some (.ref bm) ∧ bm ≠ builtinsNs ∧ G.get? bm = some ob ∧ ob.cls = .type "module" ∧ ob.dict = some builtinsNs ∧ ob.data = .plain := ⟨bm, ob, b1, b2, kG0 _ _ b3 bm76, b4, b5, b6⟩
  have p51 := kp5 _ _ p41
  have ccP : cc ≠ P := codeHd_ne C5
  have ccN : cc ≠ N := fun q => by
    obtain ⟨o, vs, file, tf, flags, tg, inF, text, tt, e, _, e3, _⟩ := C5
    rw [q, eN5] at e; cases e; cases e3
  have GC : CodeHd G cc P := by
    obtain ⟨o, vs, file, tf, flags, tg, inF, text, tt, e, r⟩ := C5
    exact ⟨o, vs, file, tf, flags, tg, inF, text, tt, kG1 _ _ e ccN ccP, r⟩
  have GR : G.CodeRec (.ref cc) quK := by
    obtain ⟨c, o, vs, t, e1, e2, e3, e4⟩ := R5
    cases e1
    exact ⟨_, o, vs, t, rfl, kG1 _ _ e2 ccN ccP, e3, e4⟩
  have G76 := kG1 _ _ p51 (Ne.symm N76) (Ne.symm p76)
  have GT : G.get? Ta = some { cls := .type "tuple", data := .seq #[.type "object"] } := kG1 _ _ eT5 TN fun q => by
    obtain ⟨ps, z, _⟩ := B.tab
    rw [← q, eT5] at z; cases z
  refine wpAny_bind (wpAny_onRaise (wpAny_bind (cload (cell := cell) (cc := cc) (fr := fr) eN5 hG5 hn ?_)))
  refine wpAny_bind (cst (env := cEnv N cell cc fr) (by kernel_rfl) eN5 rfl rfl (by kernel_rfl) (fun _ _ => by kernel_rfl) ?_)
  dsimp only
  intro h6 e6 s6
  replace B := B.store (es' := #[en w "__module__" tk4 nv]) (nd' := 1) (e6.trans (by kernel_rfl)) s6
  clear e6 s6
  refine wpAny_bind (wpAny_mkText (wpAny_bind (cst (env := cEnv N cell cc fr) (by kernel_rfl) B.ns rfl rfl (by kernel_rfl) (fun _ _ => by kernel_rfl) ?_)))
  dsimp only
  intro h7 e7 s7
  replace B := B.store (es' := #[en w "__module__" tk4 nv, en w "__qualname__" (tk4 + 1 + 1) (.str quK (tk4 + 1))]) (nd' := 2) (e7.trans (by kernel_rfl)) s7
  clear e7 s7
  refine wpAny_bind (wpAny_mkInt (wpAny_bind (cst (env := cEnv N cell cc fr) (by kernel_rfl) B.ns rfl rfl (by kernel_rfl) (fun _ _ => by kernel_rfl) ?_)))
  dsimp only
  intro h8 e8 s8
  replace B := B.store (es' := #[en w "__module__" tk4 nv, en w "__qualname__" (tk4 + 1 + 1) (.str quK (tk4 + 1)), en w "__firstlineno__" (tk4 + 1 + 1 + 1 + 1) (.int 59 (tk4 + 1 + 1 + 1))]) (nd' := 3) (e8.trans (by kernel_rfl)) s8
  clear e8 s8
  refine wpAny_pure ?_
  refine wpAny_bind (wpAny_run (codeAny_of_tree ?_))
  show wpAny _ _ (bind (blockStart clsBody (cEnv N cell cc fr)) fun _ => bind ((execs clsBody (cEnv N cell cc fr)).onRaise (leaving (cEnv N cell cc fr))) fun f => pure (Fin.done f)) _ _ _
  refine wpAny_bind (of_pu (bc_blk _ _ _ _) (wpAny_bind (wpAny_onRaise (cbody B GG GC Gb ?_))))
  intro sl f tm ts h9 tk t3 t4 t5 t6 t7 t8 t9 t10 doc cv ct B
  refine wpAny_pure ?_
  dsimp only
  refine wpAny_bind (wpAny_onRaise (wpAny_bind (wpAny_mkStrs fun vs => wpAny_bind (wpAny_newTextTuple ?_))))
  dsimp only
  replace B := B.push { cls := .type "tuple", data := .seq vs.toArray } rfl ⟨(by intro q; cases q), (by intro _ _ q; cases q)⟩
  generalize h9.objs.size = st at B ⊢
  generalize h9.push _ = h10 at B ⊢
  refine wpAny_bind (cst (env := cEnv N cell cc fr) (by kernel_rfl) B.ns rfl rfl (by kernel_rfl) (fun _ _ => by kernel_rfl) ?_)
  dsimp only
  intro h11 e11 s11
  refine wpAny_pure ?_
  replace B := B.store (es' := nsEs (fun i => hashOf w (nmI i)) (tkI tk4 (tk4 + 1 + 1) (tk4 + 1 + 1 + 1 + 1) t3 t4 t5 t6 t7 t8 t9 t10 (tk + [Str.ofString "obj"].length)) (.str "cpy313.functools" tm) (.str "cmp_to_key.<locals>.K" (tk4 + 1)) (.int 59 (tk4 + 1 + 1 + 1)) sl f st) (nd' := 12) (e11.trans (by kernel_rfl)) s11
  refine ite_b0 rfl (wpAny_bind ?_)
  have F := fun (p : Addr × Obj) hp => (B.fs p hp).1
  have eF : ∀ i, i < 6 → ∃ o, h11.get? (f i) = some o ∧ o.cls = .type "function" := below6
    ⟨_, F (f 0, _) (.tail _ (.tail _ (.tail _ (.tail _ (.tail _ (.tail _ (.head _))))))), rfl⟩ ⟨_, F (f 1, _) (.tail _ (.tail _ (.tail _ (.tail _ (.tail _ (.head _)))))), rfl⟩ ⟨_, F (f 2, _) (.tail _ (.tail _ (.tail _ (.tail _ (.head _))))), rfl⟩
    ⟨_, F (f 3, _) (.tail _ (.tail _ (.tail _ (.head _)))), rfl⟩ ⟨_, F (f 4, _) (.tail _ (.tail _ (.head _))), rfl⟩ ⟨_, F (f 5, _) (.tail _ (.head _)), rfl⟩
  have f0e := F (f 0, _) (.tail _ (.tail _ (.tail _ (.tail _ (.tail _ (.tail _ (.head _)))))))
  have f1e := F (f 1, _) (.tail _ (.tail _ (.tail _ (.tail _ (.tail _ (.head _))))))
  refine typeCall (s := ⟨h11, g, d, tk + [Str.ofString "obj"].length + 1, os⟩) hN (B.kp _ _ GT) B.ns (F (sl, _) (.tail _ (.tail _ (.tail _ (.tail _ (.tail _ (.tail _ (.tail _ (.head _)))))))) ) eF ⟨_, F (st, _) (.head _), rfl⟩ ⟨o2, B.kp _ _ (kG0 _ _ e2 (by decide)), l2⟩ ?_
  intro Cl nsA md h12 tk' x1 x2 y0 y1 y2 kp12 eC eNs eM
  refine wpAny_pure (h Cl nsA md (f 1) (f 0) h12 tk' (fun b o hb e => kp12 _ _ (B.kp _ _ (kG0 b o e hb))) ?_ ⟨⟨_, eC, rfl⟩, ⟨_, eNs, ⟨_, _, rfl⟩, by kernel_rfl, by kernel_rfl, by kernel_rfl, by kernel_rfl, by kernel_rfl, by kernel_rfl⟩, ⟨y0, eM⟩, ?_, ?_, ?_⟩)
  · refine ⟨ps4, kp12 _ _ (B.kp _ _ G76), p42, fun cv hcv => ?_⟩
    rw [p43] at hcv
    cases hcv
    refine ⟨cc, P, rfl, (GC.keeps B.kp).keeps kp12, (GR.keeps B.kp).keeps kp12, ?_, p7690⟩
    obtain ⟨ps, q1, q2, q3, q4⟩ := B.tab.keeps kp12
    exact ⟨ps, q1, q2, q3, fun p hp => q4 p (List.mem_append_left (as := (K6.map (·.1)).reverse) done0 (List.mem_reverse.mpr hp))⟩
  · exact ⟨⟨_, _, _, _, kp12 _ _ f1e, (B.cr (cv 1, _) (.tail _ (.tail _ (.tail _ (.tail _ (.head _)))))).keeps kp12⟩⟩
  · exact ⟨⟨_, _, _, _, kp12 _ _ f0e, (B.cr (cv 0, _) (.tail _ (.tail _ (.tail _ (.tail _ (.tail _ (.head _))))))).keeps kp12⟩⟩
  · intro q
    have f1e' := f1e
    rw [q, f0e] at f1e'
    have := congrArg (fun o : Option Obj => match o with | some ⟨_, _, .func fd, _⟩ => fd.name | _ => Str.ofString "") f1e'
    exact absurd (show Str.ofString "__init__" = Str.ofString "__lt__" from this) (by decide +kernel)
end Mine

end
section
open PySem PySem.W PySem.W.X PyProof.Rows Builtin
set_option linter.unusedVariables false
namespace Mine
set_option maxRecDepth 100000
/-- what stands at the top, more -/
inductive FnC (g : Heap) (a c : Addr) (i : Nat) (name : Str) : Prop
  | mk (o : Obj) (pm doc : Value) (e : g.get? a = some o) (d : o.data = .func (Calls.docDef name (parAt i) (bodyAt i) (scoAt i) pm (.ref c) doc)) (r : g.CodeRec (.ref c) name)
structure Sta2 (mg mb : Str → Option Value) (g : Heap) : Prop extends Sta mg mb g where
  g_name : ∃ v, mg "__name__" = some v
  bm : ∃ bm ob, mg "__builtins__" = some (.ref bm) ∧ bm ≠ builtinsNs ∧ g.get? bm = some ob ∧ ob.cls = .type "module" ∧ ob.dict = some builtinsNs ∧ ob.data = .plain
  b_object : mg "object" = none ∧ mb "object" = some (.type "object")
  b_bc : mb "__build_class__" = some (.builtin "__build_class__")
  tp : ∃ o2, g.get? cStatics = some o2 ∧ lookIn "thirdparty.any" o2 = some none
  sys : ∃ o, g.get? sysModules = some o
  c80 : CodeHd g 80 76
  c92 : CodeHd g 92 90
  f_ctk : FnC g 81 80 10 "cmp_to_key"
  f_keys : FnC g 93 92 13 "_law_keys"
  f_made : FnAt g 98 14 "_law_made"
theorem Sta2.keeps {mg mb : Str → Option Value} {g g' : Heap} (x : Sta2 mg mb g) (k : ∀ b o, g.get? b = some o → g'.get? b = some o) : Sta2 mg mb g' :=
  { x.toSta.keeps k with
    g_name := x.g_name
    bm := let ⟨bm, ob, a1, a2, a3, r⟩ := x.bm; ⟨bm, ob, a1, a2, k _ _ a3, r⟩
    b_object := x.b_object
    b_bc := x.b_bc
    tp := let ⟨o, e, r⟩ := x.tp; ⟨o, k _ _ e, r⟩
    sys := let ⟨o, e⟩ := x.sys; ⟨o, k _ _ e⟩
    c80 := x.c80.keeps k
    c92 := x.c92.keeps k
    f_ctk := let ⟨o, pm, doc, e, d, c⟩ := x.f_ctk; ⟨o, pm, doc, k _ _ e, d, c.keeps k⟩
    f_keys := let ⟨o, pm, doc, e, d, c⟩ := x.f_keys; ⟨o, pm, doc, k _ _ e, d, c.keeps k⟩
    f_made := x.f_made.keeps k }
/-- into a plain def with one cell of its own -/
theorem enterC {w : World} {A : Around} {R : Result → Shared → Prop} {s : Shared} {g : Heap} {muts : List Addr} {name : Str} {params : Arguments} {body : List Stmt} {scope : Scope} {pm cd doc : Value} {a : Addr} {o : Obj} {args : List Value} {binds : List (Str × Value)} {x : Str} {v : Value} {m : Str → Option Value}
    (hroom : A.depth < recursionLimit) (HS : Has g s.heap muts) (hm : ∀ a ∈ muts, a < s.heap.objs.size) (ho : g.get? a = some o) (hdata : o.data = .func (Calls.docDef name params body scope pm cd doc)) (hlim : g.NoLimit) (hcd : g.CodeRec cd name)
    (hbind : bindArgs (Calls.docDef name params body scope pm cd doc) ⟨args, []⟩ = pure binds) (hce : ∀ n, cellsFrom n scope.names [] = [(x, n)])
    (hkind : ∀ y ∈ binds, scope.names.lookup y.1 = some .local ∨ (scope.names.lookup y.1 = some .cell ∧ y.1 = x))
    (hL : ∀ L a cl, bindL (envX name scope L a cd cl).kindOf binds (fun _ => none) = m) (hC : ∀ L a cl, bindC (envX name scope L a cd cl).kindOf binds (fun _ => none) x = some v)
    (h : ∀ L c h₁ tk, Fx g L h₁ m muts → h₁.IsCell c (some v) → (∀ b o, s.heap.get? b = some o → h₁.get? b = some o) → s.heap.objs.size ≤ L → L < c →
      wpAny (model prog w) (A.deeper (envX name scope L a cd [(x, c)])) (execs body (envX name scope L a cd [(x, c)]))
        (fun f s' => R (.ok (.ret (match f with | .ret v => v | _ => .none))) s') (fun _ _ => False) { s with heap := h₁, toks := tk })
    (hco : scope.isCoroutine = false := by rfl) (hgen : scope.isGenerator = false := by rfl) (hk : scope.kind = .function := by rfl) :
    codeAny (model prog w) A (.call (.ref a) ⟨args, []⟩) R s := by
  refine codeAny_call_cells (fd := Calls.docDef name params body scope pm cd doc) (binds := binds) hroom (HS.keep _ _ ho) hdata (hlim.keeps HS.keep) (hcd.keeps HS.keep) rfl hbind rfl (fun y hy => ?_) (fun s₁ x₁ => ?_) hco hgen hk
  · rcases hkind y hy with q | ⟨q1, q2⟩
    · exact .inl q
    · refine .inr ⟨q1, ?_⟩
      show ((cellsFrom _ scope.names []).lookup _).isSome = true
      rw [hce, q2]
      simp [List.lookup_cons]
  · have ec : callEnvC (Calls.docDef name params body scope pm cd doc) s.heap.objs.size a = envX name scope s.heap.objs.size a cd [(x, s.heap.objs.size + 1)] := by
      show envX name scope s.heap.objs.size a cd (cellsFrom (s.heap.objs.size + 1) scope.names []) = _
      rw [hce]
    rw [ec] at x₁ ⊢
    rw [hL] at x₁
    obtain ⟨⟨⟨h', tk, rfl⟩, ns, keep, fresh⟩, cell, _, _⟩ := x₁
    have c1 := cell x (s.heap.objs.size + 1) (by simp [List.lookup_cons])
    rw [hC] at c1
    refine wpAny_mono (h s.heap.objs.size (s.heap.objs.size + 1) h' tk ⟨⟨ns, fun b o e => keep b o (HS.keep b o e), HS.size⟩, HS.free, fun b hb => Nat.ne_of_lt (hm b hb)⟩ c1 keep (Nat.le_refl _) (Nat.lt_succ_self _)) (fun _ _ z => z) fun _ _ z => z.elim
end Mine

end
section
open PySem PySem.W PySem.W.X PyProof.Rows Builtin
set_option linter.unusedVariables false
namespace Mine
set_option maxRecDepth 100000
section
variable {w : World} {A : Around} {E : Value → Shared → Prop} {s : Shared} {name : Str} {scope : Scope} {L a : Addr} {cd : Value} {cl : List (Str × Addr)} {h₀ : Heap} {m mg mb : Str → Option Value}
theorem ldGX {x : Str} {pos : Pos} {v : Value} {Q : Value → Shared → Prop} (F : Fr h₀ L s.heap m) (hg : h₀.Ns mainGlobals mg) (hb : mg x = some v) (h : Q v s)
    (hk : scope.kind = .function := by rfl) (hx : (envX name scope L a cd cl).kindOf x = some .globalImplicit := by rfl) (hd : (x == ("__debug__" : Str)) = false := by decide) :
    wpAny (model prog w) A (eval (.Name x pos) (envX name scope L a cd cl)) Q E s :=
  Calls.Name_function_global hk hx (Calls.loadGlobal_global (env := envX name scope L a cd cl) (hg.keeps F.keep) hb h) hd
theorem ldBX {x : Str} {pos : Pos} {v : Value} {Q : Value → Shared → Prop} (F : Fr h₀ L s.heap m) (hg : h₀.Ns mainGlobals mg) (hb : h₀.Ns builtinsNs mb) (hm : mg x = none ∧ mb x = some v) (h : Q v s)
    (hk : scope.kind = .function := by rfl) (hx : (envX name scope L a cd cl).kindOf x = some .globalImplicit := by rfl) (hd : (x == ("__debug__" : Str)) = false := by decide) :
    wpAny (model prog w) A (eval (.Name x pos) (envX name scope L a cd cl)) Q E s :=
  Calls.Name_function_global hk hx (Calls.loadGlobal_builtin (env := envX name scope L a cd cl) (hg.keeps F.keep) hm.1 (hb.keeps F.keep) hm.2 h) hd
theorem stX {muts : List Addr} {g : Heap} {x : Str} {v : Value} {Q : Unit → Shared → Prop} (F : Fx g L s.heap m muts)
    (h : ∀ h', Fx g L h' (fun y => if y = x then some v else m y) muts → Heap.SameBut L s.heap h' → Q () { s with heap := h', toks := s.toks + 1 })
    (hk : scope.kind = .function := by rfl) (hl : (envX name scope L a cd cl).kindOf x = some .local := by rfl) : wpAny (model prog w) A (storeName (envX name scope L a cd cl) x v) Q E s :=
  wpAny_storeName_local hl F.ns (fun h' hn hs => h h' (F.store hn hs) hs) (by show (scope.kind == .class || (scope.kind == .module && L != mainGlobals)) = false; rw [hk]; rfl)
end
theorem KRes.but {h h' : Heap} {C nsA mdA ltA iniA cell L : Addr} (x : KRes h C nsA mdA ltA iniA cell) (k : ∀ b o, b ≠ L → h.get? b = some o → h'.get? b = some o) (nn : nsA ≠ L) (nd : ∀ b o, h.get? b = some o → (∀ es n, o.data ≠ .dict es n) → b ≠ L) : KRes h' C nsA mdA ltA iniA cell := by
  have k2 : ∀ b o, h.get? b = some o → (∀ es n, o.data ≠ .dict es n) → h'.get? b = some o := fun b o e q => k b o (nd b o e q) e
  have kr : ∀ {cv q}, h.CodeRec cv q → h'.CodeRec cv q := fun {cv q} y => codeRec_cd y fun b o c e => k2 b o e (cd_ne c)
  refine ⟨let ⟨sl, e, r⟩ := x.cls; ⟨sl, k2 _ _ e (by intro _ _ z; cases z), r⟩, let ⟨o, e, r⟩ := x.ns; ⟨o, k _ _ nn e, r⟩, let ⟨tn, e⟩ := x.md; ⟨tn, k2 _ _ e (by intro _ _ z; cases z)⟩, ?_, ?_, x.apart⟩
  · obtain ⟨⟨doc, pm, cd, ct, e, c⟩⟩ := x.lt
    exact ⟨⟨doc, pm, cd, ct, k2 _ _ e (by intro _ _ z; cases z), kr c⟩⟩
  · obtain ⟨⟨doc, pm, cd, ct, e, c⟩⟩ := x.ini
    exact ⟨⟨doc, pm, cd, ct, k2 _ _ e (by intro _ _ z; cases z), kr c⟩⟩
theorem ck_qual (L cell : Addr) : qualnameIn (envX "cmp_to_key" (scoAt 10) L 81 (.ref 80) [("mycmp", cell)]) "K" "K" = quK := by kernel_rfl
set_option maxHeartbeats 1000000 in
theorem ctk1 {w : World} {mg mb : Str → Option Value} {A : Around} {E Q : Value → Shared → Prop} {g : Heap} {s : Shared} {cmp : Addr}
    (hd : A.depth + 4 < recursionLimit) (S : Sta2 mg mb g) (HS : Has g s.heap [76]) (T : ClsTab s.heap) (h90 : ∃ o, s.heap.get? 90 = some o)
    (h : ∀ C ns md lt ini cell h' tk, (∀ b o, b ≠ 76 → s.heap.get? b = some o → h'.get? b = some o) → ClsTab h' → KRes h' C ns md lt ini cell → h'.IsCell cell (some (.ref cmp)) → Q (.ref C) { s with heap := h', toks := tk }) :
    wpAny (model prog w) A (call (.ref 81) [.ref cmp]) Q E s := by
  refine wpAny_call ?_
  obtain ⟨o, pm, doc, eo, ed, ec⟩ := S.f_ctk
  have l76 : ∀ a ∈ [(76 : Addr)], a < s.heap.objs.size := by
    intro a ha
    obtain rfl := List.mem_singleton.mp ha
    obtain ⟨ps, e, _⟩ := T
    exact Heap.lt_size e
  refine enterC (by omega) HS l76 eo ed S.lim ec (binds := [("mycmp", .ref cmp)]) (x := "mycmp") (v := .ref cmp) (m := fun _ => none) (by rfl) (fun _ => by rfl) (by intro y hy; obtain rfl := List.mem_singleton.mp hy; exact .inr ⟨show List.lookup (Str.ofString "mycmp") (scoAt 10).names = some NameKind.cell by decide +kernel, rfl⟩) (fun _ _ _ => by rfl) (fun _ _ _ => by rfl) ?_
  intro L cell h₁ tk F hc hk hL hLc
  refine wpAny_execs_cons ?_
  show wpAny _ _ (exec (.ClassDef _ _ _ _ _ [] _ _ _ _ _) _) _ _ _
  rw [arm_exec_ClassDef]
  refine wpAny_bind (wpAny_pure (wpAny_bind (wpAny_standAt (wpAny_bind ?_))))
  unfold buildClassGuard
  refine wpAny_bind (wpAny_nsGet (S.B.keeps F.keep) ?_)
  rw [S.b_bc]
  refine wpAny_pure (wpAny_bind (wpAny_holding (wpAny_bind ?_)))
  unfold evalArgs
  refine wpAny_bind ?_
  refine args_cons (ldBX F.toFr S.G S.B S.b_object (args_nil ?_))
  iterate 30 try first
    | with_reducible refine nd_pure ?_
    | ((with_reducible show wpAny _ _ (buildClass _ _ _ _ _ _ _ _ _ _ _) _ _ _))
    | lk
    | refine ite_b1 (by kernel_rfl) ?_
  refine x_at (nd_pure (wpAny_holding ?_))
  show wpAny _ _ (buildClass "K" (qualnameIn (envX "cmp_to_key" (scoAt 10) L 81 (.ref 80) [("mycmp", cell)]) "K" "K") [.type "object"] [] clsBody clsSco ["obj"] 59 (envX "cmp_to_key" (scoAt 10) L 81 (.ref 80) [("mycmp", cell)]) posK none) _ _ _
  rw [ck_qual]
  obtain ⟨nv, hnv⟩ := S.g_name
  have S1 := S.keeps F.keep
  have cdk : ∀ b o, IsCd o → s.heap.get? b = some o → h₁.get? b = some o := fun b o _ e => hk b o e
  refine bc1 (mg := mg) (by rw [depth_deeper]; omega) S1.G S1.bm hnv S1.c80 (T.cd cdk) (let ⟨o, e⟩ := h90; ⟨o, hk _ _ e⟩) S1.lim S1.tp S1.sys ?_
  intro C nsA mdA ltA iniA h₂ tk₂ kp T₂ KR
  dsimp only at kp ⊢
  have F₂ : Fx g L h₂ (fun _ => none) [76] := by
    obtain ⟨oL, es, ep, hL', r⟩ := F.ns
    exact ⟨⟨⟨oL, es, ep, kp _ _ (Ne.symm (F.apart 76 (by repeat (first | exact .head _ | refine .tail _ ?_)))) hL', r⟩, fun b o e => kp b o (fun q => by rw [q, F.free 76 (by repeat (first | exact .head _ | refine .tail _ ?_))] at e; cases e) (F.keep b o e), F.above⟩, F.free, F.apart⟩
  have hc₂ : h₂.IsCell cell (some (.ref cmp)) := by
    obtain ⟨o, e, d⟩ := hc
    refine ⟨o, kp _ _ (fun q => ?_) e, d⟩
    obtain ⟨ps, z, _⟩ := T
    rw [q, hk _ _ z] at e; cases e; cases d
  refine wpAny_bind (wpAny_pure (wpAny_bind (wpAny_standAt (wpAny_bind (wpAny_bindName (stX F₂ ?_))))))
  intro h₃ F₃ hs₃
  refine wpAny_pure ?_
  dsimp only at F₃ ⊢
  refine wpAny_execs_cons (wpAny_Return_some (ldX F₃.toFr rfl ?_))
  have nL : ∀ {b : Addr} {o : Obj}, h₂.get? b = some o → (∀ es n, o.data ≠ .dict es n) → b ≠ L := by
    intro b o e q z
    obtain ⟨oL, es, ep, hL', hd', _⟩ := F₂.ns
    rw [z, hL'] at e; cases e; exact q _ _ hd'
  have nL' : ∀ b o, h₂.get? b = some o → (∀ es n, o.data ≠ .dict es n) → b ≠ L := fun b o e q => nL e q
  have k3 : ∀ b o, b ≠ L → h₂.get? b = some o → h₃.get? b = some o := fun b o q e => (hs₃.2 b q).trans e
  have nn : nsA ≠ L := by
    intro z
    obtain ⟨o, e, ⟨es, n, ed⟩, l, _⟩ := KR.ns
    obtain ⟨oL, esL, ep, hL', hd', hq⟩ := F₂.ns
    rw [z, hL'] at e
    cases e
    have q := hq.2 (Str.ofString "__lt__")
    unfold nsFind findBy at q
    unfold lookIn at l
    rw [hd'] at l
    dsimp only at l
    rw [← Array.find?_toList] at q
    split at l
    · rename_i en he
      rw [he] at q
      cases q
    · split at l <;> cases l
  refine h C nsA mdA ltA iniA cell h₃ _ (fun b o hb e => k3 b o (Nat.ne_of_lt (Nat.lt_of_lt_of_le (Heap.lt_size e) hL)) (kp b o hb (hk b o e))) (T₂.cd fun b o c e => k3 b o (nL' b o e (cd_ne c)) e) (KR.but k3 nn nL') ?_
  obtain ⟨o, e, d⟩ := hc₂
  exact ⟨o, k3 _ _ (nL' _ _ e (by intro _ _ z; rw [d] at z; cases z)) e, d⟩
end Mine

end
section
open PySem PySem.W PySem.W.X PyProof.Rows Builtin
set_option linter.unusedVariables false
namespace Mine
set_option maxRecDepth 100000
theorem fl_call : fastLookup "type" "__call__" = some (some (.builtin "type.__call__")) := by kernel_rfl
theorem fl_inst : subIn [] (.type "type") (.type "type") = some true := by kernel_rfl
section
variable {k : KA} {sl : Array (Option Value)} {oN oL oM oI : Obj}
theorem kF_makes (hs : (sl.toList[4]?).join = some (.builtin "object.__new__")) : makesIn (kF k sl oN oL oM oI) k.C = true := by
  have t1 : typeIn (kF k sl oN oL oM oI) (.ref k.C) = some (.type "type") := by
    show ((kF k sl oN oL oM oI).lookup k.C).map (·.cls) = _
    rw [kF_C]; rfl
  have t2 : specialIn (kF k sl oN oL oM oI) (.ref k.C) "__call__" = some (some (.builtin "type.__call__")) := by
    unfold specialIn; rw [t1]; exact fl_call
  have t3 : instIn (kF k sl oN oL oM oI) (.ref k.C) (.type "type") = some true := by
    unfold instIn; rw [t1]; exact fl_inst
  unfold makesIn
  rw [kF_C, t2, t3]
  simp [kCls]
  rw [← Array.getElem?_toList]; exact hs
theorem kF_initT {name : String} (h1 : k.ini ≠ k.C) (h2 : k.ini ≠ k.ns) (h3 : k.ini ≠ k.lt) (h4 : k.ini ≠ k.md) (c : oI.cls = .type name) : typeIn (kF k sl oN oL oM oI) (.ref k.ini) = some (.type name) := by
  show ((kF k sl oN oL oM oI).lookup k.ini).map (·.cls) = _
  rw [kF_ini h1 h2 h3 h4]; simp [c]
theorem kF_only : plainOver (kF k sl oN oL oM oI) k.C = true := by
  unfold plainOver; rw [kF_clsIn]; rfl
theorem kF_taker {tn : Tok} (n1 : k.ns ≠ k.C) (h1 : k.md ≠ k.C) (h2 : k.md ≠ k.ns) (h3 : k.md ≠ k.lt) (h : nsIn [(k.ns, oN)] k.ns "obj" = some (some (.ref k.md))) : takerIn (kF k sl oN oL (mdObj k tn) oI) k.C "obj" = some (some (.ref k.md)) := by
  unfold takerIn; rw [kF_own n1 h, Option.bind_some]; dsimp only; rw [kF_takes h1 h2 h3]; rfl
end
set_option maxHeartbeats 1000000 in
/-- K(number) -/
theorem makeK1 {w : World} {k : KA} {A : Around} {E Q : Value → Shared → Prop} {g : Heap} {s : Shared} {i : Int} {t : Tok}
    (hd : A.depth + 3 < recursionLimit) (hlim : g.NoLimit) (K : KCl k g) (kp : ∀ b o, g.get? b = some o → s.heap.get? b = some o)
    (h : ∀ x h' tk, (∀ b o, s.heap.get? b = some o → h'.get? b = some o) → s.heap.objs.size ≤ x → (∀ S : List Addr, (∀ a ∈ S, a < s.heap.objs.size) → KeyAt k (hideAll h' S) x i) → Q (.ref x) { s with heap := h', toks := tk }) :
    wpAny (model prog w) A (call (.ref k.C) [.int i t]) Q E s := by
  obtain ⟨sl, oN, oL, tn, oI, X, hs, hN, cL, cI, n1, n2, n3, n4, n5, n6, n7, n8, n9, n10⟩ := K.frag
  obtain ⟨hh, gg, d, tt, os⟩ := s
  dsimp only at *
  have Xh := X.keeps kp
  refine wpAny_call (make_core (init := .ref k.ini) (makes_of Xh (kF_makes hs)) (looks_findIn Xh (kF_own n1 hN.2.2.1)) (fun self => bind_fn Xh self (kF_initT n7 n8 n9 n10 cI)) (.inl rfl) ?_)
  have kx : ∀ b o, hh.get? b = some o → ((hh.push emptyDict).push (instObj k.C hh.objs.size)).get? b = some o := fun b o e => Heap.get?_push_of_some _ (Heap.get?_push_of_some _ e)
  have ex : ((hh.push emptyDict).push (instObj k.C hh.objs.size)).get? (hh.objs.size + 1) = some (instObj k.C hh.objs.size) := by heap_get
  have edx : ((hh.push emptyDict).push (instObj k.C hh.objs.size)).get? hh.objs.size = some emptyDict := Heap.get?_push_of_some _ (Heap.get?_push_size _ rfl)
  generalize (hh.push emptyDict).push (instObj k.C hh.objs.size) = h1 at kx ex edx ⊢
  have fx : hh.get? (hh.objs.size + 1) = none := Heap.get?_none_of_le (Nat.le_succ _)
  have ndx : hh.objs.size ≠ hh.objs.size + 1 := Nat.ne_of_lt (Nat.lt_succ_self _)
  have lex : hh.objs.size ≤ hh.objs.size + 1 := Nat.le_succ _
  generalize hh.objs.size + 1 = x at ex fx ndx lex ⊢
  have k1 : ∀ b o, hh.get? b = some o → (hideAll h1 [x]).get? b = some o := fun b o e => hideAll_get _ (kx b o e) (by simp only [List.mem_cons, List.not_mem_nil, or_false]; exact fun q => by rw [q, fx] at e; cases e)
  have kg : ∀ b o, g.get? b = some o → (hideAll h1 [x]).get? b = some o := fun b o e => k1 b o (kp b o e)
  have Kx := K.keeps kg
  obtain ⟨⟨doc, pm, cd, ct, eo, ec⟩⟩ := Kx.ini
  refine enterX (muts := [x]) (by show A.depth + 1 < _; omega) (has_hide h1 [x]) (by intro y hy; simp only [List.mem_cons, List.not_mem_nil, or_false] at hy; subst hy; exact Heap.lt_size ex) eo rfl (hlim.keeps kg) ec (binds := [("self", .ref x), ("obj", .int i t)]) (BindsTo.of_eq rfl) (locs rfl) ?_
  intro L h₂ tk F hk hL
  have XG := X.keeps kg
  have ex2 := hk _ _ ex
  have edx2 := hk _ _ edx
  have N : News (hideAll h1 [x]) L h₂ [(x, instObj k.C hh.objs.size)] := by
    intro p hp
    obtain rfl := List.mem_singleton.mp hp
    exact ⟨ex2, F.apart x (by repeat (first | exact .head _ | refine .tail _ ?_)), F.free x (by repeat (first | exact .head _ | refine .tail _ ?_))⟩
  have I : InstAt h₂ x (instObj k.C hh.objs.size) k.C (some emptyDict) := ⟨ex2, rfl, rfl, edx2⟩
  refine wpAny_execs_cons (plainObj_wpAny_Assign_Attribute (ldX F.toFr rfl (ldX F.toFr rfl ?_)))
  refine set_slot (news' := [(x, ⟨.ref k.C, some hh.objs.size, .plain, #[some (.int i t)]⟩)]) F.toFr XG N I (kF_up n1 hN.2.2.2.2.2 own_sa) kF_only (kF_taker n1 n4 n5 n6 hN.2.1) (kF_mdType n4 n5 n6) (kF_slot n4 n5 n6) (by decide) rfl rfl (.head fun p hp => (nomatch hp)) ?_
  intro h₃ F₃ N₃
  dsimp only
  refine wpAny_execs_nil ?_
  refine ⟨rfl, ?_⟩
  have e3 := (N₃ _ (.head _)).1
  exact h x h₃ _ (fun b o e => F₃.keep b o (k1 b o e)) lex fun S hS => ⟨hh.objs.size, t, emptyDict, hideAll_get _ e3 fun q => absurd (hS x q) (Nat.not_lt.mpr lex), hideAll_get _ (F₃.keep _ _ (hideAll_get _ edx (by simp [ndx]))) fun q => absurd (hS _ q) (Nat.lt_irrefl _)⟩
end Mine

end
section
open PySem PySem.W PyProof.Rows
set_option linter.unusedVariables false
namespace Mine
/-! a comprehension with facts that grow -/
theorem hide_up {G h h' : Heap} {S : List Addr} (k : ∀ b o, G.get? b = some o → h.get? b = some o) (hS : ∀ b ∈ S, G.get? b = none) (k' : ∀ b o, h.get? b = some o → h'.get? b = some o) : ∀ b o, G.get? b = some o → (hideAll h' S).get? b = some o :=
  fun b o e => hideAll_get _ (k' b o (k b o e)) fun q => by rw [hS b q] at e; cases e
theorem plainL_of {h : Heap} {a : Addr} {ys : Array Value} (x : h.PlainList a ys) : PlainL h a ys := let ⟨n, e⟩ := x; ⟨_, n, e, rfl, rfl, rfl⟩
/-- one turn -/
noncomputable def CompTurn (w : World) (A : Around) (env : Env) (scope : Scope) (cl : List (Str × Addr)) (x : Str) (ifs : List Expr) (elt : Expr) (wr : List Addr) (n : Nat) (P : Nat → Value → Prop) (z : Nat) (Facts : Nat → List Value → Heap → Prop) : Prop :=
  ∀ C D i v ys G (s₃ : Shared) m₃ (E' : Value → Shared → Prop), z ≤ C → z ≤ D → P i v → i < n → Facts i ys G → (∀ b o, G.get? b = some o → s₃.heap.get? b = some o) → (∀ b ∈ C :: D :: wr, G.get? b = none) → (∀ b ∈ C :: D :: wr, b < s₃.heap.objs.size) →
    s₃.heap.Ns C m₃ → m₃ x = some v →
    wpAny (model prog w) A (forIn ifs true fun c r => if r = true then do let ok ← isTrue c (compEnvC scope cl C env) (eval c (compEnvC scope cl C env)); pure (ForInStep.yield ok) else pure (ForInStep.yield r))
      (fun ok s₄ => (∃ h₄ tk₄, s₄ = { s₃ with heap := h₄, toks := tk₄ } ∧ ∀ b o, s₃.heap.get? b = some o → h₄.get? b = some o) ∧
        if ok = true then wpAny (model prog w) A (eval elt (compEnvC scope cl C env)) (fun y s₅ => ∃ h₅ tk₅, s₅ = { s₃ with heap := h₅, toks := tk₅ } ∧ (∀ b o, s₃.heap.get? b = some o → h₅.get? b = some o) ∧ Facts (i + 1) (ys ++ [y]) (hideAll h₅ (C :: D :: wr))) E' s₄
        else Facts (i + 1) ys (hideAll s₄.heap (C :: D :: wr))) E' s₃
set_option maxRecDepth 100000 in
theorem compG {w : World} {A : Around} {E : Value → Shared → Prop} {s₂ : Shared} {env : Env} {elt iter : Expr} {x : Str} {px : Pos} {ifs : List Expr} {scope : Scope} {cl : List (Str × Addr)} {pos : Pos} {RR : Value → Addr → Result → Shared → Prop}
    {I : Addr} {fp wr S : List Addr} {n : Nat} {P : Nat → Value → Prop} {St : Nat → Heap → Prop} {Facts : Nat → List Value → Heap → Prop}
    (hcell : ∀ y ∈ scope.names, y.2 ≠ .cell) (hkind : scope.kind = .function) (hx : scope.names.lookup x = some .local)
    (W : Walks prog w A I fp wr n P St) (hsz : n ≤ sizeLine) (hst : St 0 s₂.heap)
    (hfp : ∀ b ∈ fp, b < s₂.heap.objs.size) (hwS : ∀ b ∈ wr, b ∈ S) (hSl : ∀ b ∈ S, b < s₂.heap.objs.size) (hF0 : Facts 0 [] (hideAll s₂.heap S)) (turn : CompTurn w A env scope cl x ifs elt S n P s₂.heap.objs.size Facts)
    (fin : ∀ D C h' tk m' ys G, s₂.heap.get? D = none → s₂.heap.get? C = none → D ≠ C → h'.Ns C m' → PlainL h' D ys.toArray → Facts n ys G → G.get? D = none → G.get? C = none → (∀ b ∈ S, G.get? b = none) → (∀ b o, G.get? b = some o → h'.get? b = some o) → (∀ b o, b ∉ wr → s₂.heap.get? b = some o → h'.get? b = some o) → RR (.ref D) C (.ok .next) { s₂ with heap := h', toks := tk }) :
    wpAny (model prog w) A (newList []) (fun acc s₃ => wpAny (model prog w) A (newFunctionEnv scope env.globals cl [] env.qual none .none (some env)) (fun cenv s₄ =>
      codeAny (model prog w) A (.compStart (.ListComp elt [⟨.Name x px, iter, ifs, 0⟩] scope pos) 0 (.ref I) acc { cenv with scope := relabel scope env }) (RR acc cenv.locals) s₄) E s₃) E s₂ := by
  refine wpAny_newObj_type (wpAny_newFunctionEnv hcell (by intro y hy; simp at hy) (fun h₁ hns₁ hsb₁ => ?_) hkind)
  dsimp only at hns₁ hsb₁ ⊢
  generalize hH2 : s₂.heap.push { cls := .type "list", dict := none, data := .seq ([] : List Value).toArray } = H2 at hns₁ hsb₁ ⊢
  have hC : H2.objs.size = s₂.heap.objs.size + 1 := by rw [← hH2, Heap.size_push]
  have hDC : s₂.heap.objs.size ≠ H2.objs.size := by rw [hC]; exact Nat.ne_of_lt (Nat.lt_succ_self _)
  have below : ∀ b, b < s₂.heap.objs.size → b ≠ H2.objs.size ∧ b ≠ s₂.heap.objs.size := fun b hb => ⟨by rw [hC]; exact Nat.ne_of_lt (Nat.lt_succ_of_lt hb), Nat.ne_of_lt hb⟩
  have hDf : s₂.heap.objs.size ∉ fp := fun hm => Nat.lt_irrefl _ (hfp _ hm)
  have hCf : H2.objs.size ∉ fp := fun hm => by have := hfp _ hm; rw [hC] at this; exact Nat.lt_irrefl _ (Nat.lt_of_succ_lt this)
  have old : ∀ b o, s₂.heap.get? b = some o → h₁.get? b = some o := fun b o e => hsb₁.extBut b o (below b (Heap.lt_size e)).1 (Heap.get?_push_of_some _ (hH2 ▸ Heap.get?_push_of_some _ e))
  have hacc : h₁.PlainList s₂.heap.objs.size #[] := ⟨_, hsb₁.extBut _ _ hDC (Heap.get?_push_of_some _ (hH2 ▸ Heap.get?_push_size _ rfl))⟩
  have hst₁ : St 0 h₁ := W.frame _ _ _ hst fun b _ o e => old b o e
  have fresh : ∀ a, s₂.heap.objs.size ≤ a → s₂.heap.get? a = none := fun a ha => Heap.get?_none_of_le ha
  have hCw : H2.objs.size ∉ wr := fun h => hCf (W.sub _ h)
  have hDw : s₂.heap.objs.size ∉ wr := fun h => hDf (W.sub _ h)
  have loop : ∀ s₃ : Shared, s₃ = { s₂ with heap := h₁, toks := s₂.toks + ([] : List (Str × Value)).length } →
      codeAny (model prog w) A (.compLoop (.ListComp elt [⟨.Name x px, iter, ifs, 0⟩] scope pos) 0 (.ref I) (.ref s₂.heap.objs.size) (compEnvC scope cl H2.objs.size env))
        (RR (.ref s₂.heap.objs.size) H2.objs.size) s₃ := by
    rintro s₃ rfl
    refine codeAny_compLoop_tests
      (fun k s' => ∃ h' tk i ys m' G, s' = { s₂ with heap := h', toks := tk } ∧ i ≤ n ∧ k = n + 1 - i ∧ ys.length ≤ i ∧ St i h' ∧ h'.PlainList s₂.heap.objs.size ys.toArray ∧ h'.Ns H2.objs.size m' ∧ Facts i ys G ∧ (∀ b o, G.get? b = some o → h'.get? b = some o) ∧
        (∀ b ∈ H2.objs.size :: s₂.heap.objs.size :: S, G.get? b = none) ∧ ∀ b o, b ∉ wr → s₂.heap.get? b = some o → h'.get? b = some o) ?_ (n + 1)
      ⟨h₁, _, 0, [], _, hideAll s₂.heap S, rfl, Nat.zero_le _, rfl, Nat.le_refl _, hst₁, hacc, hns₁, hF0, fun b o e => old b o (of_hideAll _ e), fun b hb => ?_, fun b o _ e => old b o e⟩
    · intro k s' hI9
      refine hideQ fun Qa EQa hQa => ?_
      obtain ⟨h', tk, i, ys, m', G, rfl, hi, rfl, hyl, hst', hacc', hn', hF', hG', hS', hk'⟩ := hI9
      by_cases hlt : i < n
      · refine W.item i _ _ _ hlt hst' fun v h₂ tk₂ hPv hst₂ hk₂ => hQa _ _ ?_
        refine wpAny_assign_Name (wpAny_storeName_local (lookup_relabel_local hx) (hn'.at' fun o e => hk₂ _ o hCw e) (fun h₃ hn₃ hs₃ => ?_) (by simp [compEnvC, relabel, hkind]))
        have gw : ∀ b o, G.get? b = some o → b ∉ wr ∧ b ≠ H2.objs.size ∧ b ≠ s₂.heap.objs.size := fun b o e =>
          ⟨fun q => (by rw [hS' b (by simp [hwS b q])] at e; cases e), fun q => (by rw [hS' b (by simp [q])] at e; cases e), fun q => (by rw [hS' b (by simp [q])] at e; cases e)⟩
        have hG₃ : ∀ b o, G.get? b = some o → h₃.get? b = some o := fun b o e => hs₃.extBut b o (gw b o e).2.1 (hk₂ b o (gw b o e).1 (hG' b o e))
        have up₃ : ∀ b o, b ≠ H2.objs.size → b ∉ wr → h'.get? b = some o → h₃.get? b = some o := fun b o h1 h2 e => hs₃.extBut b o h1 (hk₂ b o h2 e)
        have hst₃ : St (i + 1) h₃ := W.frame _ _ _ hst₂ fun b hb o e => hs₃.extBut b o (fun q => hCf (by have q' : b = H2.objs.size := q; rw [← q']; exact hb)) e
        have hacc₃ : h₃.PlainList s₂.heap.objs.size ys.toArray := hacc'.at fun o e => up₃ _ o hDC hDw e
        have lts : ∀ b ∈ H2.objs.size :: s₂.heap.objs.size :: S, b < h₃.objs.size := by
          have lC : H2.objs.size < h₃.objs.size := hn₃.lt
          intro b hb
          rcases List.mem_cons.mp hb with rfl | hb
          · exact lC
          · rcases List.mem_cons.mp hb with rfl | hb
            · rw [hC] at lC; exact Nat.lt_of_succ_lt lC
            · have := hSl b hb; rw [hC] at lC; exact Nat.lt_trans this (Nat.lt_of_succ_lt lC)
        refine wpAny_mono (turn H2.objs.size s₂.heap.objs.size i v ys G _ _ _ (by rw [hC]; exact Nat.le_succ _) (Nat.le_refl _) hPv hlt hF' hG₃ hS' lts hn₃ (by simp)) (fun ok s₄ h₄ => ?_) fun _ _ e => e
        obtain ⟨⟨h₄, tk₄, rfl, hk₄⟩, h₄'⟩ := h₄
        cases ok with
        | false =>
          rw [if_neg (by decide)] at h₄' ⊢
          exact ⟨n + 1 - (i + 1), by omega, h₄, tk₄, i + 1, ys, _, _, rfl, hlt, rfl, Nat.le_succ_of_le hyl, W.frame _ _ _ hst₃ fun b _ o e => hk₄ b o e, hacc₃.at fun o e => hk₄ _ o e, hn₃.keeps hk₄, h₄',
            fun b o e => of_hideAll _ e, fun b hb => hideAll_none _ hb, fun b o hb e => hk₄ b o (up₃ b o (below b (Heap.lt_size e)).1 hb (hk' b o hb e))⟩
        | true =>
          rw [if_pos rfl] at h₄' ⊢
          refine wpAny_mono h₄' (fun y s₅ h₅ => ?_) fun _ _ e => e
          obtain ⟨h₅, tk₅, rfl, hk₅, hF₅⟩ := h₅
          refine wpAny_list_append_plain (hsz := by rw [List.size_toArray]; exact Nat.le_trans hyl (Nat.le_trans hi hsz)) (hacc₃.at fun o e => hk₅ _ o e) fun h₆ hl₆ hs₆ => ?_
          refine ⟨n + 1 - (i + 1), by omega, h₆, tk₅, i + 1, ys ++ [y], _, _, rfl, hlt, rfl, by rw [List.length_append, List.length_singleton]; omega, W.frame _ _ _ hst₃ fun b hb o e => hs₆.extBut b o (fun q => hDf (q ▸ hb)) (hk₅ b o e), by rw [List.push_toArray] at hl₆; exact hl₆,
            (hn₃.keeps hk₅).sameBut hs₆ (Ne.symm hDC), hF₅, fun b o e => hs₆.extBut b o (fun q => ?_) (of_hideAll _ e), fun b hb => hideAll_none _ hb,
            fun b o hb e => hs₆.extBut b o (below b (Heap.lt_size e)).2 (hk₅ b o (up₃ b o (below b (Heap.lt_size e)).1 hb (hk' b o hb e)))⟩
          rw [q, hideAll_none _ (by simp)] at e; cases e
      · obtain rfl : i = n := Nat.le_antisymm hi (Nat.not_lt.mp hlt)
        refine W.done _ _ _ hst' fun h₂ tk₂ hk₂ => hQa _ _ ?_
        refine fin s₂.heap.objs.size H2.objs.size h₂ tk₂ m' ys G (fresh _ (Nat.le_refl _)) (fresh _ (by rw [hC]; exact Nat.le_succ _)) hDC (hn'.at' fun o e => hk₂ _ o hCw e) (plainL_of (hacc'.at fun o e => hk₂ _ o hDw e)) hF' (hS' _ (by simp)) (hS' _ (by simp)) (fun b hb => hS' b (by simp [hb])) (fun b o e => ?_)
          fun b o hb e => hk₂ b o hb (hk' b o hb e)
        have q1 : b ∉ wr := fun q => by rw [hS' b (by simp [hwS b q])] at e; cases e
        exact hk₂ b o q1 (hG' b o e)
    · cases q : (hideAll s₂.heap S).get? b with
      | none => rfl
      | some o =>
        rcases List.mem_cons.mp hb with rfl | hb
        · have := of_hideAll _ q; rw [fresh _ (by rw [hC]; exact Nat.le_succ _)] at this; cases this
        · rcases List.mem_cons.mp hb with rfl | hb
          · have := of_hideAll _ q; rw [fresh _ (Nat.le_refl _)] at this; cases this
          · rw [hideAll_none _ hb] at q; cases q
  exact codeAny_compStart_list (loop _ rfl) (W.self 0 _ _ _ hst₁ (loop _ rfl))
theorem compF {w : World} {A : Around} {E : Value → Shared → Prop} {s : Shared} {env : Env} {elt iter : Expr} {x : Str} {px : Pos} {ifs : List Expr} {scope : Scope} {cl : List (Str × Addr)} {pos : Pos} {Q : Value → Shared → Prop}
    (hclos : closureFor scope env = pure cl) (hcell : ∀ y ∈ scope.names, y.2 ≠ .cell) (hkind : scope.kind = .function)
    (hnames : ∀ y ∈ scope.names, y.2 = .local → scope.names.lookup y.1 = some .local) (hx : scope.names.lookup x = some .local)
    (h : wpAny (model prog w) A (eval iter env) (fun xv s₁ => wpAny (model prog w) A (pyIter xv) (fun it s₂ => ∃ I fp wr S n P St, ∃ Facts : Nat → List Value → Heap → Prop, it = .ref I ∧ Walks prog w A I fp wr n P St ∧ n ≤ sizeLine ∧ St 0 s₂.heap ∧
      (∀ b ∈ fp, b < s₂.heap.objs.size) ∧ (∀ b ∈ wr, b ∈ S) ∧ (∀ b ∈ S, b < s₂.heap.objs.size) ∧ Facts 0 [] (hideAll s₂.heap S) ∧ CompTurn w A env scope cl x ifs elt S n P s₂.heap.objs.size Facts ∧
      (∀ D h' tk ys G, s₂.heap.get? D = none → PlainL h' D ys.toArray → Facts n ys G → G.get? D = none → (∀ b ∈ S, G.get? b = none) → (∀ b o, G.get? b = some o → h'.get? b = some o) → (∀ b o, b ∉ wr → s₂.heap.get? b = some o → h'.get? b = some o) → Q (.ref D) { s₂ with heap := h', toks := tk })) E s₁) E s)
    (hs : ∀ x, foldedSetIterable iter env x = pure x := by intro _; rfl) :
    wpAny (model prog w) A (eval (.ListComp elt [⟨.Name x px, iter, ifs, 0⟩] scope pos) env) Q E s := by
  rw [eval_ListComp]
  refine wpAny_comprehension_free (use := none) rfl hs hclos hkind hnames (wpAny_mono h (fun xv s₁ h₁ => wpAny_mono h₁ (fun it s₂ h₂ => ?_) fun _ _ e => e) fun _ _ e => e)
  obtain ⟨I, fp, wr, S, n, P, St, Facts, rfl, W, hsz, hst, hfp, hwS, hSl, hF0, turn, fin⟩ := h₂
  exact compG (RR := compPost (model prog w) A E none Q) hcell hkind hx W hsz hst hfp hwS hSl hF0 turn fun D C h' tk m' ys G hD hC hDC hn pl hF hGD hGC hS hG hk => ⟨m', hn, fun h₃ hs₃ =>
    fin D h₃ tk ys G hD (pl_same pl hs₃ hDC) hF hGD hS (fun b o e => (hs₃.2 b (fun q => by rw [q, hGC] at e; cases e)).trans (hG b o e)) fun b o hb e => (hs₃.2 b (fun q => by rw [q, hC] at e; cases e)).trans (hk b o hb e)⟩
end Mine

end
section
open PySem PySem.W PyProof.Rows
set_option linter.unusedVariables false
namespace Mine
/-! a comprehension with two for -/
section
variable {w : World} {A : Around} {E : Value → Shared → Prop} {s : Shared} {R : Result → Shared → Prop}
variable {elt t0 i0 t1 i1 : Expr} {ifs : List Expr} {scope : Scope} {pos : Pos} {it acc : Value} {env : Env}
noncomputable abbrev comp2 (elt t0 i0 t1 i1 : Expr) (ifs : List Expr) (scope : Scope) (pos : Pos) : Expr := .ListComp elt [⟨t0, i0, [], 0⟩, ⟨t1, i1, ifs, 0⟩] scope pos
theorem compTurn_two (elt t0 i0 t1 i1 : Expr) (ifs : List Expr) (scope : Scope) (pos : Pos) (it acc : Value) (env : Env) :
    compTurn (comp2 elt t0 i0 t1 i1 ifs scope pos) 0 it acc env = (do
      standAt i0.pos
      match ← pyNext it with
      | none => pure (.done .next)
      | some v =>
        letOwnedTupleGo t0 it v
        assign t0 env v
        let x ← eval i1 env
        standAt i1.pos
        let x ← foldedSetIterable i1 env x
        let _ ← runOwn (.compStart (comp2 elt t0 i0 t1 i1 ifs scope pos) 1 (← holding [x] (pyIter x)) acc env) env
        again (.compLoop (comp2 elt t0 i0 t1 i1 ifs scope pos) 0 it acc env)) := by rfl
theorem compTurn_in (elt t0 i0 t1 i1 : Expr) (ifs : List Expr) (scope : Scope) (pos : Pos) (it acc : Value) (env : Env) :
    compTurn (comp2 elt t0 i0 t1 i1 ifs scope pos) 1 it acc env = (do
      standAt i1.pos
      match ← pyNext it with
      | none => pure (.done .next)
      | some v =>
        letOwnedTupleGo t1 it v
        assign t1 env v
        let mut ok := true
        for c in ifs do
          if ok then ok ← isTrue c env (eval c env)
        if ok then
          (do let _ ← call (.builtin "list.append") [acc, ← eval elt env])
        again (.compLoop (comp2 elt t0 i0 t1 i1 ifs scope pos) 1 it acc env)) := by rfl
theorem start_in
    (h0 : codeAny (model prog w) A (.compLoop (comp2 elt t0 i0 t1 i1 ifs scope pos) 1 it acc env) R s)
    (h : ∀ E', wpAny (model prog w) A (pyIter it) (fun it' s' => codeAny (model prog w) A (.compLoop (comp2 elt t0 i0 t1 i1 ifs scope pos) 1 it' acc env) R s') E' s) :
    codeAny (model prog w) A (.compStart (comp2 elt t0 i0 t1 i1 ifs scope pos) 1 it acc env) R s := by
  refine codeAny_of_tree ?_
  show wpAny _ _ ((compStart (comp2 elt t0 i0 t1 i1 ifs scope pos) 1 it acc env).onRaise (fun x => do noteFrame x env; standAt theWindowsPlace)) _ _ s
  refine wpAny_notedAt ?_
  unfold compStart
  show wpAny _ _ (ask >>= _) _ _ s
  refine wpAny_bind (wpAny_askSetting (wpAny_ite ?_))
  split
  · first
      | exact wpAny_bind (wpAny_pure (wpAny_pure (And.intro rfl h0)))
      | exact wpAny_pure (And.intro rfl h0)
  · first
      | exact wpAny_bind (wpAny_rule (wpAny_bind (wpAny_standAt (wpAny_bind (wpAny_mono (h _) (fun it' s' h' => wpAny_pure (And.intro rfl h')) fun _ _ x => x)))))
      | (refine wpAny_bind (wpAny_rule ?_); show wpAny _ _ (standAt i1.pos >>= _) _ _ s; exact wpAny_bind (wpAny_standAt (wpAny_bind (wpAny_mono (h _) (fun it' s' h' => wpAny_pure (And.intro rfl h')) fun _ _ x => x))))
theorem loop_out (I : Nat → Shared → Prop)
    (turn : ∀ n s E', I n s → wpAny (model prog w) A (pyNext it) (fun r s₁ => match r with
      | none => R (.ok .next) s₁
      | some v => wpAny (model prog w) A (assign t0 env v) (fun _ s₂ => wpAny (model prog w) A (eval i1 env) (fun x s₃ => wpAny (model prog w) A (pyIter x) (fun it' s₄ =>
          codeAny (model prog w) A (.compStart (comp2 elt t0 i0 t1 i1 ifs scope pos) 1 it' acc env) (fun r s₅ => (∃ f, r = .ok f) ∧ ∃ m, m < n ∧ I m s₅) s₄) E' s₃) E' s₂) E' s₁) E' s)
    (n : Nat) (h : I n s) (ht : ∀ v, letOwnedTupleGo t0 it v = pure () := by intro _; rfl) (hs : ∀ x, foldedSetIterable i1 env x = pure x := by intro _; rfl) :
    codeAny (model prog w) A (.compLoop (comp2 elt t0 i0 t1 i1 ifs scope pos) 0 it acc env) R s := by
  refine codeAny_loop rfl I (fun n s hI => ?_) n h
  show wpAny _ A ((compTurn (comp2 elt t0 i0 t1 i1 ifs scope pos) 0 it acc env).onRaise (fun x => do noteFrame x env; theTreesLotGoes x)) _ _ s
  refine wpAny_noted ?_
  rw [compTurn_two]
  refine wpAny_bind (wpAny_standAt (wpAny_bind (wpAny_mono (turn n s _ hI) (fun r s₁ h₁ => ?_) fun _ _ h' => h')))
  cases r with
  | none => exact wpAny_pure h₁
  | some v =>
    refine wpAny_bind (wpAny_of_eq (ht v) (wpAny_bind (wpAny_mono h₁ (fun _ s₂ h₂ => ?_) fun _ _ h' => h')))
    refine wpAny_bind (wpAny_mono h₂ (fun x s₃ h₃ => wpAny_bind (wpAny_standAt (wpAny_bind (wpAny_of_eq (hs x) ?_)))) fun _ _ h' => h')
    refine wpAny_bind (wpAny_holding (wpAny_mono h₃ (fun it' s₄ h₄ => ?_) fun _ _ h' => h'))
    refine wpAny_bind (wpAny_runOwn (codeAny_mono h₄ fun r s₅ h₅ => ?_))
    obtain ⟨⟨f, rfl⟩, h₅⟩ := h₅
    exact wpAny_pure ⟨rfl, h₅⟩
theorem loop_in (I : Nat → Shared → Prop)
    (turn : ∀ n s E', I n s → wpAny (model prog w) A (pyNext it) (fun r s₁ => match r with
      | none => R (.ok .next) s₁
      | some v => wpAny (model prog w) A (letOwnedTupleGo t1 it v) (fun _ s₁' => wpAny (model prog w) A (assign t1 env v) (fun _ s₂ =>
          wpAny (model prog w) A (forIn ifs true fun c r => if r = true then do let ok ← isTrue c env (eval c env); pure (ForInStep.yield ok) else pure (ForInStep.yield r)) (fun ok s₃ =>
            if ok = true then wpAny (model prog w) A (eval elt env) (fun x s₄ => wpAny (model prog w) A (call (.builtin "list.append") [acc, x]) (fun _ s₅ => ∃ m, m < n ∧ I m s₅) E' s₄) E' s₃
            else ∃ m, m < n ∧ I m s₃) E' s₂) E' s₁') E' s₁) E' s)
    (n : Nat) (h : I n s) : codeAny (model prog w) A (.compLoop (comp2 elt t0 i0 t1 i1 ifs scope pos) 1 it acc env) R s := by
  refine codeAny_loop rfl I (fun n s hI => ?_) n h
  show wpAny _ A ((compTurn (comp2 elt t0 i0 t1 i1 ifs scope pos) 1 it acc env).onRaise (fun x => do noteFrame x env; theTreesLotGoes x)) _ _ s
  refine wpAny_noted ?_
  rw [compTurn_in]
  refine wpAny_bind (wpAny_standAt (wpAny_bind (wpAny_mono (turn n s _ hI) (fun r s₁ h₁ => ?_) fun _ _ h' => h')))
  cases r with
  | none => exact wpAny_pure h₁
  | some v =>
    refine wpAny_bind (wpAny_mono h₁ (fun _ s₁' h₁' => ?_) fun _ _ h' => h')
    refine wpAny_bind (wpAny_mono h₁' (fun _ s₂ h₂ => wpAny_bind (wpAny_mono h₂ (fun ok s₃ h₃ => ?_) fun _ _ h' => h')) fun _ _ h' => h')
    cases ok with
    | false => exact wpAny_pure ⟨rfl, h₃⟩
    | true => exact wpAny_bind (wpAny_bind (wpAny_mono h₃ (fun x s₄ h₄ => wpAny_bind (wpAny_mono h₄ (fun _ s₅ h₅ => wpAny_pure (wpAny_pure ⟨rfl, h₅⟩)) fun _ _ h' => h')) fun _ _ h' => h'))
/-- the way into a comprehension -/
theorem compIn {Q : Value → Shared → Prop} {cl : List (Str × Addr)} {target iter : Expr} {rest : List Comprehension}
    (hclos : closureFor scope env = pure cl) (hcell : ∀ y ∈ scope.names, y.2 ≠ .cell) (hkind : scope.kind = .function)
    (hnames : ∀ y ∈ scope.names, y.2 = .local → scope.names.lookup y.1 = some .local)
    (h : wpAny (model prog w) A (eval iter env) (fun xv s₁ => wpAny (model prog w) A (pyIter xv) (fun it s₂ => ∀ D C h₁ tk, D = s₂.heap.objs.size → C = s₂.heap.objs.size + 1 → (∀ b o, s₂.heap.get? b = some o → h₁.get? b = some o) → h₁.PlainList D #[] → h₁.Ns C (fun _ => none) →
      (∀ Q' E', Q' it { s₂ with heap := h₁, toks := tk } → wpAny (model prog w) A (pyIter it) Q' E' { s₂ with heap := h₁, toks := tk }) ∧
      codeAny (model prog w) A (.compLoop (.ListComp elt (⟨target, iter, ifs, 0⟩ :: rest) scope pos) 0 it (.ref D) (compEnvC scope cl C env))
        (fun r s' => r = .ok .next ∧ ∃ m, s'.heap.Ns C m ∧ ∀ h', Heap.SameBut C s'.heap h' → Q (.ref D) { s' with heap := h' }) { s₂ with heap := h₁, toks := tk }) E s₁) E s)
    (hs : ∀ x, foldedSetIterable iter env x = pure x := by intro _; rfl) :
    wpAny (model prog w) A (eval (.ListComp elt (⟨target, iter, ifs, 0⟩ :: rest) scope pos) env) Q E s := by
  rw [eval_ListComp]
  refine wpAny_comprehension_free (use := none) rfl hs hclos hkind hnames (wpAny_mono h (fun xv s₁ h₁ => wpAny_mono h₁ (fun it s₂ h₂ => ?_) fun _ _ e => e) fun _ _ e => e)
  refine wpAny_newObj_type (wpAny_newFunctionEnv hcell (by intro y hy; simp at hy) (fun h₁ hns₁ hsb₁ => ?_) hkind)
  dsimp only at hns₁ hsb₁ ⊢
  generalize hH2 : s₂.heap.push { cls := .type "list", dict := none, data := .seq ([] : List Value).toArray } = H2 at hns₁ hsb₁ ⊢
  have hC : H2.objs.size = s₂.heap.objs.size + 1 := by rw [← hH2, Heap.size_push]
  have hDC : s₂.heap.objs.size ≠ H2.objs.size := by rw [hC]; exact Nat.ne_of_lt (Nat.lt_succ_self _)
  have old : ∀ b o, s₂.heap.get? b = some o → h₁.get? b = some o := fun b o e => hsb₁.extBut b o (by rw [hC]; exact Nat.ne_of_lt (Nat.lt_succ_of_lt (Heap.lt_size e))) (Heap.get?_push_of_some _ (hH2 ▸ Heap.get?_push_of_some _ e))
  have hacc : h₁.PlainList s₂.heap.objs.size #[] := ⟨_, hsb₁.extBut _ _ hDC (Heap.get?_push_of_some _ (hH2 ▸ Heap.get?_push_size _ rfl))⟩
  obtain ⟨self, loop⟩ := h₂ s₂.heap.objs.size H2.objs.size h₁ (s₂.toks + ([] : List (Str × Value)).length) rfl hC old hacc hns₁
  have loop' : codeAny (model prog w) A (.compLoop (.ListComp elt (⟨target, iter, ifs, 0⟩ :: rest) scope pos) 0 it (.ref s₂.heap.objs.size) (compEnvC scope cl H2.objs.size env))
      (compPost (model prog w) A E none Q (.ref s₂.heap.objs.size) H2.objs.size) { s₂ with heap := h₁, toks := s₂.toks + ([] : List (Str × Value)).length } := codeAny_mono loop fun r s' ⟨e, m, n, q⟩ => by subst e; exact ⟨m, n, q⟩
  exact codeAny_compStart_list loop' (self _ _ loop')
end
end Mine

end
section
open PySem PySem.W PySem.W.X PyProof.Rows Builtin
set_option linter.unusedVariables false
namespace Mine
set_option maxRecDepth 100000
theorem kF_keep {k : KA} {sl : Array (Option Value)} {oN oL oM oI : Obj} : keepIn (kF k sl oN oL oM oI) (.ref k.C) = true := by
  have t1 : typeIn (kF k sl oN oL oM oI) (.ref k.C) = some (.type "type") := by
    show ((kF k sl oN oL oM oI).lookup k.C).map (·.cls) = _
    rw [kF_C]; rfl
  have t2 : specialIn (kF k sl oN oL oM oI) (.ref k.C) "__call__" = some (some (.builtin "type.__call__")) := by
    unfold specialIn; rw [t1]; exact fl_call
  unfold keepIn
  dsimp only
  rw [kF_C]
  dsimp only
  rw [t2]
  decide
theorem callWith_key {w : World} {A : Around} {E Q : Value → Shared → Prop} {s : Shared} {k : KA} {G : Heap} {env : Env} {pos : Pos} {e : Expr} {rest : List Expr} (K : KCl k G)
    (h : wpAny (model prog w) A (spliced (backTo pos (starEach (e :: rest) env))) (fun vs s₁ => (∀ b o, G.get? b = some o → s₁.heap.get? b = some o) ∧ wpAny (model prog w) A (call (.ref k.C) vs) Q E s₁) E s) 
    (kp : ∀ b o, G.get? b = some o → s.heap.get? b = some o)
    (he : starEach (e :: rest) env = (false, eval e env) :: starEach rest env := by rfl) (hplain : (backTo pos (starEach rest env)).any (·.1) = false := by rfl) :
    wpAny (model prog w) A (callWith pos (.ref k.C) [] (backTo pos (starEach (e :: rest) env)) []) Q E s := by
  obtain ⟨sl, oN, oL, tn, oI, X, _⟩ := K.frag
  exact callWith_K (X.keeps kp) kF_keep (wpAny_mono h (fun vs s₁ x => ⟨X.keeps x.1, by rw [List.nil_append]; exact x.2⟩) fun _ _ x => x) he hplain
/-- what none of a class's things is -/
noncomputable def OddO (o : Obj) : Prop := (∃ vs n, o.data = .seq vs n) ∨ (∃ ps, o = tabObj ps ∧ TriplesOk ps.toList) ∨ (∃ es n, o.data = .dict es n ∧ nsFind es "__lt__" = none) ∨ o.data = .cell none
noncomputable def Odd (h : Heap) (a : Addr) : Prop := ∃ o, h.get? a = some o ∧ OddO o
theorem odd_ns {h : Heap} {a : Addr} {m : Str → Option Value} (n : h.Ns a m) (hm : m "__lt__" = none) : Odd h a := let ⟨o, es, ep, e, d, _, f⟩ := n; ⟨o, e, .inr (.inr (.inl ⟨es, ep, d, (f _).trans hm⟩))⟩
theorem odd_list {h : Heap} {a : Addr} {its : Array Value} (x : PlainL h a its) : Odd h a := let ⟨o, n, e, _, _, d⟩ := x; ⟨o, e, .inl ⟨its, n, d⟩⟩
theorem odd_tab {h : Heap} {P : Addr} {K : List (Pos × Str)} {done : List Pos} (x : TabAt h P K done) : Odd h P := let ⟨ps, e, t, _⟩ := x; ⟨_, e, .inr (.inl ⟨ps, rfl, t⟩)⟩
theorem odd_cls {h : Heap} (x : ClsTab h) : Odd h 76 := let ⟨ps, e, t, _⟩ := x; ⟨_, e, .inr (.inl ⟨ps, rfl, t⟩)⟩
theorem odd_cell {h : Heap} {c : Addr} (x : h.IsCell c none) : Odd h c := let ⟨o, e, d⟩ := x; ⟨o, e, .inr (.inr (.inr d))⟩
theorem odd_ne {h : Heap} {S : List Addr} (hS : ∀ a ∈ S, Odd h a) {b : Addr} {o : Obj} (e : h.get? b = some o) (ho : ¬ OddO o) : b ∉ S := fun q => by
  obtain ⟨o', e', x⟩ := hS b q
  rw [e] at e'; cases e'; exact ho x
theorem even_rec {o : Obj} {vs : Array Value} {q : Str} {t : Tok} (h1 : o.data = .fields vs) (h2 : vs[1]? = some (.str q t)) : ¬ OddO o := by
  rintro (⟨vs', n, e⟩ | ⟨ps, rfl, ht⟩ | ⟨es, n, e, _⟩ | e)
  · rw [h1] at e; cases e
  · cases h1
    rw [← Array.getElem?_toList] at h2
    exact triples_no_str ht q t h2
  · rw [h1] at e; cases e
  · rw [h1] at e; cases e
theorem rec_hide {h : Heap} {S : List Addr} (hS : ∀ a ∈ S, Odd h a) {cv : Value} {q : Str} (x : h.CodeRec cv q) : (hideAll h S).CodeRec cv q :=
  let ⟨c, o, vs, t, e1, e2, e3, e4⟩ := x; ⟨c, o, vs, t, e1, hideAll_get _ e2 (odd_ne hS e2 (even_rec e3 e4)), e3, e4⟩
theorem fn_hide {h : Heap} {S : List Addr} (hS : ∀ a ∈ S, Odd h a) {a : Addr} {name qual : Str} {d : Arguments × List Stmt × Scope} {cl : List (Str × Addr)} (x : KFn h a name qual d cl) : KFn (hideAll h S) a name qual d cl := by
  obtain ⟨⟨doc, pm, cd, ct, e, c⟩⟩ := x
  refine ⟨⟨doc, pm, cd, ct, hideAll_get _ e (odd_ne hS e ?_), rec_hide hS c⟩⟩
  rintro (⟨vs', n, q⟩ | ⟨ps, q, ht⟩ | ⟨es, n, q, _⟩ | q)
  · cases q
  · exact nomatch (congrArg Obj.data q)
  · cases q
  · cases q
theorem cell_hide {h : Heap} {S : List Addr} (hS : ∀ a ∈ S, Odd h a) {c : Addr} {v : Value} (x : h.IsCell c (some v)) : (hideAll h S).IsCell c (some v) := by
  obtain ⟨o, e, d⟩ := x
  refine ⟨o, hideAll_get _ e (odd_ne hS e ?_), d⟩
  rintro (⟨vs', n, q⟩ | ⟨ps, rfl, ht⟩ | ⟨es, n, q, _⟩ | q)
  · rw [d] at q; cases q
  · cases d
  · rw [d] at q; cases q
  · rw [d] at q; cases q
theorem nsIn_look (ns : Addr) (o : Obj) (name : Str) : nsIn [(ns, o)] ns name = lookIn name o := by
  unfold nsIn lookIn
  simp only [List.lookup_cons, beq_self_eq_true]
  obtain ⟨c, d, dt, sl⟩ := o
  cases dt <;> rfl
theorem KRes.kcl {h : Heap} {S : List Addr} {C ns md lt ini cell cmp acell Aq : Addr} (x : KRes h C ns md lt ini cell) (hS : ∀ a ∈ S, Odd h a) (c1 : h.IsCell cell (some (.ref cmp))) (c2 : KFn h cmp "compare" "_law_keys.<locals>.compare" cmpD [("asked", acell)]) (c3 : h.IsCell acell (some (.ref Aq))) :
    KCl ⟨C, ns, md, lt, ini, cell, cmp, acell, Aq⟩ (hideAll h S) where
  cls := by
    obtain ⟨sl, e, r⟩ := x.cls
    refine ⟨sl, hideAll_get _ e (odd_ne hS e ?_), r⟩
    rintro (⟨vs', n, q⟩ | ⟨ps, q, ht⟩ | ⟨es, n, q, _⟩ | q)
    · cases q
    · exact nomatch (congrArg Obj.data q)
    · cases q
    · cases q
  ns := by
    obtain ⟨o, e, d, l1, l2, l3, l4, l5, l6⟩ := x.ns
    refine ⟨o, hideAll_get _ e (odd_ne hS e ?_), d, by rw [nsIn_look]; exact l1, by rw [nsIn_look]; exact l2, by rw [nsIn_look]; exact l3, by rw [nsIn_look]; exact l4, by rw [nsIn_look]; exact l5, by rw [nsIn_look]; exact l6⟩
    obtain ⟨es, n, d⟩ := d
    rintro (⟨vs', n, q⟩ | ⟨ps, rfl, ht⟩ | ⟨es', n, q, f⟩ | q)
    · rw [d] at q; cases q
    · cases d
    · unfold nsFind findBy at f
      unfold lookIn at l1
      rw [q] at l1
      dsimp only at l1
      rw [← Array.find?_toList] at f
      split at l1
      · rename_i en he
        rw [he] at f; cases f
      · split at l1 <;> cases l1
    · rw [d] at q; cases q
  md := by
    obtain ⟨tn, e⟩ := x.md
    refine ⟨tn, hideAll_get _ e (odd_ne hS e ?_)⟩
    rintro (⟨vs', n, q⟩ | ⟨ps, q, ht⟩ | ⟨es, n, q, _⟩ | q)
    · cases q
    · exact nomatch (congrArg Obj.cls q)
    · cases q
    · cases q
  lt := fn_hide hS x.lt
  ini := fn_hide hS x.ini
  apart := x.apart
  cell := cell_hide hS c1
  cmp := fn_hide hS c2
  acell := cell_hide hS c3
end Mine

end
section
open PySem PySem.W PySem.W.X PyProof.Rows Builtin
set_option linter.unusedVariables false
namespace Mine
set_option maxRecDepth 100000
/-- into a plain def with cells of its own -/
theorem enterCs {w : World} {A : Around} {R : Result → Shared → Prop} {s : Shared} {g : Heap} {muts : List Addr} {name : Str} {params : Arguments} {body : List Stmt} {scope : Scope} {pm cd doc : Value} {a : Addr} {o : Obj} {args : List Value} {binds : List (Str × Value)} {cells : Addr → List (Str × Addr)} {m cm : Str → Option Value}
    (hroom : A.depth < recursionLimit) (HS : Has g s.heap muts) (hm : ∀ a ∈ muts, a < s.heap.objs.size) (ho : g.get? a = some o) (hdata : o.data = .func (Calls.docDef name params body scope pm cd doc)) (hlim : g.NoLimit) (hcd : g.CodeRec cd name)
    (hbind : bindArgs (Calls.docDef name params body scope pm cd doc) ⟨args, []⟩ = pure binds) (hce : ∀ n : Addr, cellsFrom (n + 1) scope.names [] = cells n)
    (hkind : ∀ y ∈ binds, scope.names.lookup y.1 = some .local ∨ (scope.names.lookup y.1 = some .cell ∧ ∀ n, ((cells n).lookup y.1).isSome = true))
    (hL : ∀ L a cl, bindL (envX name scope L a cd cl).kindOf binds (fun _ => none) = m) (hC : ∀ L a cl, bindC (envX name scope L a cd cl).kindOf binds (fun _ => none) = cm)
    (h : ∀ L h₁ tk, Fx g L h₁ m muts → (∀ n c, (cells L).lookup n = some c → h₁.IsCell c (cm n)) → ((cells L).Pairwise fun x y => x.2 ≠ y.2) → (∀ n c, (n, c) ∈ cells L → L < c) → (∀ b o, s.heap.get? b = some o → h₁.get? b = some o) → s.heap.objs.size ≤ L →
      wpAny (model prog w) (A.deeper (envX name scope L a cd (cells L))) (execs body (envX name scope L a cd (cells L)))
        (fun f s' => R (.ok (.ret (match f with | .ret v => v | _ => .none))) s') (fun _ _ => False) { s with heap := h₁, toks := tk })
    (hco : scope.isCoroutine = false := by rfl) (hgen : scope.isGenerator = false := by rfl) (hk : scope.kind = .function := by rfl) :
    codeAny (model prog w) A (.call (.ref a) ⟨args, []⟩) R s := by
  refine codeAny_call_cells (fd := Calls.docDef name params body scope pm cd doc) (binds := binds) hroom (HS.keep _ _ ho) hdata (hlim.keeps HS.keep) (hcd.keeps HS.keep) rfl hbind rfl (fun y hy => ?_) (fun s₁ x₁ => ?_) hco hgen hk
  · rcases hkind y hy with q | ⟨q1, q2⟩
    · exact .inl q
    · refine .inr ⟨q1, ?_⟩
      show ((cellsFrom _ scope.names []).lookup _).isSome = true
      rw [hce]
      exact q2 _
  · have ec : callEnvC (Calls.docDef name params body scope pm cd doc) s.heap.objs.size a = envX name scope s.heap.objs.size a cd (cells s.heap.objs.size) := by
      show envX name scope s.heap.objs.size a cd (cellsFrom (s.heap.objs.size + 1) scope.names []) = _
      rw [hce]
    rw [ec] at x₁ ⊢
    rw [hL] at x₁
    obtain ⟨⟨⟨h', tk, rfl⟩, ns, keep, fresh⟩, cell, ap, ab⟩ := x₁
    rw [hC] at cell
    exact wpAny_mono (h s.heap.objs.size h' tk ⟨⟨ns, fun b o e => keep b o (HS.keep b o e), HS.size⟩, HS.free, fun b hb => Nat.ne_of_lt (hm b hb)⟩ cell ap ab keep (Nat.le_refl _)) (fun _ _ z => z) fun _ _ z => z.elim
theorem KRes.nc {h h' : Heap} {C nsA mdA ltA iniA cell : Addr} (x : KRes h C nsA mdA ltA iniA cell) (k : ∀ b o, (∀ v, o.data ≠ .cell v) → h.get? b = some o → h'.get? b = some o) : KRes h' C nsA mdA ltA iniA cell := by
  have kr : ∀ {cv q}, h.CodeRec cv q → h'.CodeRec cv q := fun {cv q} ⟨c, o, vs, t, e1, e2, e3, e4⟩ => ⟨c, o, vs, t, e1, k _ _ (by intro v z; rw [e3] at z; cases z) e2, e3, e4⟩
  refine ⟨let ⟨sl, e, r⟩ := x.cls; ⟨sl, k _ _ (by intro _ z; cases z) e, r⟩, let ⟨o, e, ⟨es, n, d⟩, r⟩ := x.ns; ⟨o, k _ _ (by intro v z; rw [d] at z; cases z) e, ⟨es, n, d⟩, r⟩, let ⟨tn, e⟩ := x.md; ⟨tn, k _ _ (by intro _ z; cases z) e⟩, ?_, ?_, x.apart⟩
  · obtain ⟨⟨doc, pm, cd, ct, e, c⟩⟩ := x.lt
    exact ⟨⟨doc, pm, cd, ct, k _ _ (by intro _ z; cases z) e, kr c⟩⟩
  · obtain ⟨⟨doc, pm, cd, ct, e, c⟩⟩ := x.ini
    exact ⟨⟨doc, pm, cd, ct, k _ _ (by intro _ z; cases z) e, kr c⟩⟩
noncomputable def K1 : List (Pos × Str) := [(⟨96, 4, 98, 26⟩, "_law_keys.<locals>.compare")]
/-- what stands when keys are made -/
structure Made (k : KA) (ka : Nat → Addr) (v : Nat → Int) (n : Nat) (G : Heap) : Prop where
  lim : G.NoLimit
  cl : KCl k G
  keys : ∀ j, j < n → KeyAt k G (ka j) (v j)
  inj : ∀ i j, i < n → j < n → ka i = ka j → i = j
theorem cd_cell {o : Obj} (x : IsCd o) : ∀ v, o.data ≠ .cell v := by
  intro v q
  rcases x with ⟨ps, rfl⟩ | ⟨vs, _, _, e, _⟩
  · cases q
  · rw [e] at q; cases q
theorem lk_qual (L : Addr) (cl : List (Str × Addr)) : qualnameIn (envX "_law_keys" (scoAt 13) L 93 (.ref 92) cl) "compare" "compare" = "_law_keys.<locals>.compare" := by kernel_rfl
section
variable {h h' : Heap} {P2 : Addr} {ps2 : Array Value}
theorem TabAt.ext {P : Addr} {K : List (Pos × Str)} {done : List Pos} (x : TabAt h P K done) (hne : P ≠ P2) (e : h.get? P2 = some (tabObj ps2)) (ht : TriplesOk ps2.toList) (k : Heap.ExtBut P2 h h') : TabAt h' P K done :=
  let ⟨ps, e1, t, r, d⟩ := x; ⟨ps, k _ _ hne e1, t, fun p hp cv hc => codeRec_tab (r p hp cv hc) e ht k, d⟩
theorem TabAt.less {P : Addr} {K : List (Pos × Str)} {done : List Pos} (x : TabAt h P K done) : TabAt h P K [] := let ⟨ps, a1, a2, a3, _⟩ := x; ⟨ps, a1, a2, a3, fun p hp => nomatch hp⟩
theorem ClsTab.ext90 (x : ClsTab h) (e : h.get? 90 = some (tabObj ps2)) (ht : TriplesOk ps2.toList) (k : Heap.ExtBut 90 h h') : ClsTab h' := by
  obtain ⟨ps, e1, t, r⟩ := x
  refine ⟨ps, k _ _ (by decide) e1, t, fun cv hc => ?_⟩
  obtain ⟨cc, P, e2, e3, e4, e5, e6, e7⟩ := r cv hc
  have R := codeRec_tab e4 e ht k
  refine ⟨cc, P, e2, ?_, R, e5.ext e7 e ht k, e6, e7⟩
  obtain ⟨c', o, vs, t', f1, f2, f3, f4⟩ := e4
  cases f1
  have c90 : cc ≠ 90 := fun z => by
    rw [z, e] at f2; cases f2; cases f3
    rw [← Array.getElem?_toList] at f4
    exact triples_no_str ht _ _ f4
  obtain ⟨o', vs', file, tf, flags, tg, inF, text, tt, g1, r'⟩ := e3
  exact ⟨o', vs', file, tf, flags, tg, inF, text, tt, k _ _ c90 g1, r'⟩
theorem KFn.ext {a : Addr} {name qual : Str} {d : Arguments × List Stmt × Scope} {cl : List (Str × Addr)} (x : KFn h a name qual d cl) (e : h.get? P2 = some (tabObj ps2)) (ht : TriplesOk ps2.toList) (k : Heap.ExtBut P2 h h') : KFn h' a name qual d cl := by
  obtain ⟨⟨doc, pm, cd, ct, e1, c⟩⟩ := x
  exact ⟨⟨doc, pm, cd, ct, k _ _ (fun z => by rw [z, e] at e1; exact nomatch (congrArg Obj.data (Option.some.inj e1))) e1, codeRec_tab c e ht k⟩⟩
theorem KFn.nd {a : Addr} {name qual : Str} {d : Arguments × List Stmt × Scope} {cl : List (Str × Addr)} (x : KFn h a name qual d cl) (k : ∀ b o, (∀ es n, o.data ≠ .dict es n) → (∀ v, o.data ≠ .cell v) → h.get? b = some o → h'.get? b = some o) : KFn h' a name qual d cl := by
  obtain ⟨⟨doc, pm, cd, ct, e1, c⟩⟩ := x
  exact ⟨⟨doc, pm, cd, ct, k _ _ (by intro _ _ z; cases z) (by intro _ z; cases z) e1, codeRec_cd c fun b o q e => k b o (cd_ne q) (cd_cell q) e⟩⟩
theorem ns_nd {L : Addr} {m : Str → Option Value} (n : h.Ns L m) (hs : Heap.SameBut L h h') : ∀ b o, (∀ es n, o.data ≠ .dict es n) → h.get? b = some o → h'.get? b = some o := fun b o q e => (hs.2 b (fun z => by
  obtain ⟨oL, es, ep, hL', hd', _⟩ := n
  rw [z, hL'] at e; cases e; exact q _ _ hd')).trans e
theorem cell_nc {c : Addr} {v : Option Value} (n : h.IsCell c v) (hs : Heap.SameBut c h h') : ∀ b o, (∀ v, o.data ≠ .cell v) → h.get? b = some o → h'.get? b = some o := fun b o q e => (hs.2 b (fun z => by
  obtain ⟨oL, hL', hd'⟩ := n
  rw [z, hL'] at e; cases e; exact q _ hd')).trans e
end
section
variable {h h' : Heap} {L c a : Addr} {m : Str → Option Value} {v : Option Value} {its : Array Value}
theorem pl_ne_ns (n : h.Ns L m) (x : PlainL h a its) : a ≠ L := by
  rintro rfl
  obtain ⟨o1, n1, x1, x2, x3, x4⟩ := x
  obtain ⟨oL, es, ep, hL', hd', _⟩ := n
  rw [x1] at hL'; cases hL'; rw [x4] at hd'; cases hd'
theorem pl_ne_cell (n : h.IsCell c v) (x : PlainL h a its) : a ≠ c := by
  rintro rfl
  obtain ⟨o1, n1, x1, x2, x3, x4⟩ := x
  obtain ⟨o2, y1, y2⟩ := n
  rw [y1] at x1; cases x1; rw [y2] at x4; cases x4
theorem tab_ne {P : Addr} {ps : Array Value} {o : Obj} (e : h.get? P = some (tabObj ps)) (x : h.get? a = some o) (q : o ≠ tabObj ps) : a ≠ P := fun z => q (Option.some.inj (x.symm.trans ((congrArg h.get? z).trans e)))
theorem pl_ne_tab (T : ClsTab h) (T2 : TabAt h 90 K1 []) (x : PlainL h a its) : a ≠ 76 ∧ a ≠ 90 := by
  obtain ⟨o1, n1, x1, x2, _⟩ := x
  have q : ∀ ps, o1 ≠ tabObj ps := fun ps z => by rw [z] at x2; cases x2
  exact ⟨let ⟨ps, e, _⟩ := T; tab_ne e x1 (q ps), let ⟨ps, e, _⟩ := T2; tab_ne e x1 (q ps)⟩
theorem cell_ne_tab (T : ClsTab h) (T2 : TabAt h 90 K1 []) (x : h.IsCell c v) : c ≠ 76 ∧ c ≠ 90 := by
  obtain ⟨o1, x1, x2⟩ := x
  have q : ∀ ps, o1 ≠ tabObj ps := fun ps z => by rw [z] at x2; cases x2
  exact ⟨let ⟨ps, e, _⟩ := T; tab_ne e x1 (q ps), let ⟨ps, e, _⟩ := T2; tab_ne e x1 (q ps)⟩
theorem cell_ns (n : h.Ns L m) (hs : Heap.SameBut L h h') (x : h.IsCell c v) : h'.IsCell c v :=
  let ⟨oc, a1, a2⟩ := x; ⟨oc, ns_nd n hs _ _ (by intro _ _ z; rw [a2] at z; cases z) a1, a2⟩
theorem cell_up (x : h.IsCell c v) (k : ∀ o, h.get? c = some o → h'.get? c = some o) : h'.IsCell c v := let ⟨o, e, d⟩ := x; ⟨o, k o e, d⟩
end
set_option maxHeartbeats 2000000 in
theorem keys1 {w : World} {mg mb : Str → Option Value} {A : Around} {E Q : Value → Shared → Prop} {g : Heap} {s : Shared} {R Aq : Addr} {hid : List Addr} {vs : List Value} {ns : List Int} {its : Array Value}
    (hh : A.handled = none) (hd : A.depth + 8 < recursionLimit) (S : Sta2 mg mb g) (HS : Has g s.heap (76 :: 90 :: Aq :: hid)) (T : ClsTab s.heap) (T2 : TabAt s.heap 90 K1 []) (hR : PlainL s.heap R vs.toArray) (hI : Ints vs ns) (hA : PlainL s.heap Aq its) (hn : ns.length < 60)
    (hO : ∀ a ∈ hid, Odd s.heap a ∧ a ≠ 76 ∧ a ≠ 90)
    (h : ∀ k ka D G h' tk, k.Aq = Aq → (∀ b o, b ≠ 76 → b ≠ 90 → s.heap.get? b = some o → h'.get? b = some o) → ClsTab h' → TabAt h' 90 K1 [] → Made k ka (fun j => ns.getD j 0) ns.length G → (∀ j, j < ns.length → s.heap.objs.size ≤ ka j) → (∀ b o, G.get? b = some o → h'.get? b = some o) → (∀ a ∈ 76 :: 90 :: Aq :: D :: hid, G.get? a = none) →
      PlainL h' D (rowV ka ns.length id).toArray → s.heap.get? D = none → Q (.ref D) { s with heap := h', toks := tk }) :
    wpAny (model prog w) A (call (.ref 93) [.ref R, .ref Aq]) Q E s := by
  refine wpAny_call ?_
  obtain ⟨o, pm, doc, eo, ed, ec⟩ := S.f_keys
  have lm : ∀ a ∈ 76 :: 90 :: Aq :: hid, a < s.heap.objs.size := by
    intro a ha
    rcases List.mem_cons.mp ha with rfl | ha
    · exact let ⟨_, e, _⟩ := odd_cls T; Heap.lt_size e
    · rcases List.mem_cons.mp ha with rfl | ha
      · exact T2.addr
      · rcases List.mem_cons.mp ha with rfl | ha
        · exact hA.lt
        · exact let ⟨_, e, _⟩ := (hO a ha).1; Heap.lt_size e
  refine enterCs (cells := fun L => [("key", L + 1 + 1), ("asked", L + 1)]) (by omega) HS lm eo ed S.lim ec (binds := [("numbers", .ref R), ("asked", .ref Aq)]) (m := fun y => if y = "numbers" then some (.ref R) else none) (cm := fun y => if y = "asked" then some (.ref Aq) else none) (by rfl) (fun _ => by rfl) ?_ (fun _ _ _ => by rfl) (fun _ _ _ => by rfl) ?_
  · intro y hy
    simp only [List.mem_cons, List.not_mem_nil, or_false] at hy
    rcases hy with rfl | rfl
    · exact .inl (show List.lookup (Str.ofString "numbers") (scoAt 13).names = some NameKind.local by decide +kernel)
    · refine .inr ⟨show List.lookup (Str.ofString "asked") (scoAt 13).names = some NameKind.cell by decide +kernel, fun n => ?_⟩
      show (List.lookup (Str.ofString "asked") [(Str.ofString "key", n + 1 + 1), (Str.ofString "asked", n + 1)]).isSome = true
      rfl
  intro L h₁ tk F hc hap hab hk hL
  have cA := hc "asked" (L + 1) (by rfl)
  have cK := hc "key" (L + 1 + 1) (by rfl)
  rw [if_pos rfl] at cA
  rw [if_neg (by decide)] at cK
  have cne : L + 1 ≠ L + 1 + 1 := Nat.ne_of_lt (Nat.lt_succ_self _)
  have lk : L < L + 1 + 1 := Nat.lt_succ_of_lt (Nat.lt_succ_self _)
  clear hc hap hab
  generalize hck : L + 1 + 1 = ck at *
  generalize hca : L + 1 = ca at *
  clear hck hca
  have S1 := S.keeps F.keep
  refine wpAny_execs_cons (nestDef_K rfl rfl rfl ?_)
  rw [lk_qual]
  refine makeF (K := K1) (done := []) (clos := [("asked", ca)]) (by kernel_rfl) rfl S1.G rfl S1.c92 (T2.keeps hk) (.head _) ?_ S1.bm ?_
  · intro p hp _ _
    obtain rfl := List.mem_singleton.mp hp
    rfl
  intro f h₂ tk₂ doc₂ cv ctv hfs k2 _ T2₂ ef hrec hsz2
  dsimp only
  have F₂ : Fx g L h₂ _ (76 :: 90 :: Aq :: hid) := F.turn' (a := 90) (F.free 90 (by repeat (first | exact .head _ | refine .tail _ ?_))) (F.apart 90 (by repeat (first | exact .head _ | refine .tail _ ?_))) (fun b o q e => k2 b o q e)
  refine stX F₂ ?_
  intro h₃ F₃ hs₃
  dsimp only at F₃ hs₃ ⊢ k2 hfs hsz2
  obtain ⟨ps90, e90, t90, r90, _⟩ := id (T2.keeps hk)
  have nd₃ := ns_nd F₂.ns hs₃
  have KC₃ : KFn h₃ f "compare" "_law_keys.<locals>.compare" cmpD [("asked", ca)] := (KFn.mk ⟨doc₂, _, cv, ctv, ef, hrec⟩).nd fun b o q _ e => nd₃ b o q e
  have T₃ : ClsTab h₃ := ((T.cd fun b o _ e => hk b o e).ext90 e90 t90 k2).cd fun b o q e => nd₃ b o (cd_ne q) e
  have T2₃ : TabAt h₃ 90 K1 [] := T2₂.less.cd fun b o q e => nd₃ b o (cd_ne q) e
  have T₁ := T.cd fun b o _ e => hk b o e
  have cA₃ := cell_ns F₂.ns hs₃ (cell_up cA fun o e => k2 _ o (cell_ne_tab T₁ (T2.keeps hk) cA).2 e)
  have cK₃ := cell_ns F₂.ns hs₃ (cell_up cK fun o e => k2 _ o (cell_ne_tab T₁ (T2.keeps hk) cK).2 e)
  obtain ⟨o', pm', doc', e', d', c'⟩ := S.f_ctk
  refine wpAny_execs_cons (wpAny_Assign_Name (Call_ (ldGX F₃.toFr S.G S.g_ctk (callWith_def d' (args_cons (ldX F₃.toFr rfl (args_nil ⟨F₃.keep _ _ e', ?_⟩)))))))
  refine ctk1 (g := hideAll h₃ [76]) (by rw [depth_deeper]; omega) (S.keeps (has_sub F₃.has (by repeat' (first | exact fa0 | exact .head _ | refine fa1 ?_ ?_ | refine .tail _ ?_)))) (has_hide h₃ [76]) T₃ (let ⟨ps, q, _⟩ := T2₃; ⟨_, q⟩) ?_
  intro Cl nsA mdA ltA iniA cell h₄ tk₄ k4 T₄ KR cM
  dsimp only at k4 ⊢
  have F₄ : Fx g L h₄ _ (76 :: 90 :: Aq :: hid) := F₃.turn' (a := 76) (F.free 76 (by repeat (first | exact .head _ | refine .tail _ ?_))) (F.apart 76 (by repeat (first | exact .head _ | refine .tail _ ?_))) (fun b o q e => k4 b o q e)
  obtain ⟨ps76, e76, t76, _⟩ := id T₃
  have cell76 : ∀ {c : Addr} {v : Option Value}, h₃.IsCell c v → h₄.IsCell c v := fun x => cell_up x fun o e => k4 _ o (cell_ne_tab T₃ T2₃ x).1 e
  refine wpAny_storeName_cell (c := ck) (by rfl) (by rfl) (by rfl) (cell76 cK₃) ?_
  intro h₅ cK₅ hs₅
  dsimp only at hs₅ ⊢
  have nc₅ := cell_nc (cell76 cK₃) hs₅
  have gck : g.get? ck = none := Heap.get?_none_of_le (Nat.le_trans F.above (Nat.le_of_lt lk))
  have gL : g.get? L = none := Heap.get?_none_of_le F.above
  have F₅ : Fx g L h₅ _ (76 :: 90 :: Aq :: hid) := F₄.turn' (a := ck) gck (Nat.ne_of_gt lk) hs₅.extBut
  have KC₅ := (KC₃.ext e76 t76 (fun b o q e => k4 b o q e)).nd (fun b o _ q e => nc₅ b o q e)
  have KR₅ := KR.nc nc₅
  have T₅ := T₄.cd (fun b o q e => nc₅ b o (cd_cell q) e)
  have T2₅ := (T2₃.ext (by decide) e76 t76 (fun b o q e => k4 b o q e)).cd (fun b o q e => nc₅ b o (cd_cell q) e)
  have cA₅ : h₅.IsCell ca (some (.ref Aq)) := let ⟨o, e, d⟩ := cell76 cA₃; ⟨o, (hs₅.2 _ cne).trans e, d⟩
  have cM₅ : h₅.IsCell cell (some (.ref f)) := by
    obtain ⟨o, e, d⟩ := cM
    refine ⟨o, (hs₅.2 _ (fun z => ?_)).trans e, d⟩
    obtain ⟨o', e', d'⟩ := cell76 cK₃
    rw [z, e'] at e; cases e; rw [d'] at d; cases d
  have up : ∀ b o, b ≠ 76 → b ≠ 90 → s.heap.get? b = some o → h₅.get? b = some o := fun b o q1 q2 e => by
    have lb := Nat.lt_of_lt_of_le (Heap.lt_size e) hL
    exact (hs₅.2 b (Nat.ne_of_lt (Nat.lt_trans lb lk))).trans (k4 b o q1 ((hs₃.2 b (Nat.ne_of_lt lb)).trans (k2 b o q2 (hk b o e))))
  have hR₅ : PlainL h₅ R vs.toArray := pl_keep hR fun o e => up _ _ (pl_ne_tab T T2 hR).1 (pl_ne_tab T T2 hR).2 e
  have hA₅ : PlainL h₅ Aq its := pl_keep hA fun o e => up _ _ (pl_ne_tab T T2 hA).1 (pl_ne_tab T T2 hA).2 e
  have hOdd : ∀ a ∈ 76 :: 90 :: L :: Aq :: hid, Odd h₅ a := by
    intro a ha
    rcases List.mem_cons.mp ha with rfl | ha
    · exact odd_cls T₅
    rcases List.mem_cons.mp ha with rfl | ha
    · exact odd_tab T2₅
    rcases List.mem_cons.mp ha with rfl | ha
    · exact odd_ns F₅.ns (by rw [if_neg (by decide), if_neg (by decide)])
    rcases List.mem_cons.mp ha with rfl | ha
    · exact odd_list hA₅
    · obtain ⟨⟨o1, e1, x1⟩, n1, n2⟩ := hO a ha
      exact ⟨o1, up _ _ n1 n2 e1, x1⟩
  have K := KR₅.kcl hOdd cM₅ KC₅ cA₅
  have gG : ∀ b o, g.get? b = some o → (hideAll h₅ (76 :: 90 :: L :: Aq :: hid)).get? b = some o := fun b o e => hideAll_get _ (F₅.keep b o e) (nm_of e (fa1 (F₅.free _ (by repeat (first | exact .head _ | refine .tail _ ?_))) (fa1 (F₅.free _ (by repeat (first | exact .head _ | refine .tail _ ?_))) (fa1 gL fun b hb => F₅.free b (.tail _ (.tail _ hb))))))
  have hK₅ : (hideAll h₅ (76 :: 90 :: L :: Aq :: hid)).IsCell ck (some (.ref Cl)) := cell_hide hOdd cK₅
  have limG := S.lim.keeps gG
  have Gno : ∀ a ∈ 76 :: 90 :: L :: Aq :: hid, (hideAll h₅ (76 :: 90 :: L :: Aq :: hid)).get? a = none := fun a ha => hideAll_none _ ha
  have Gk : ∀ b o, (hideAll h₅ (76 :: 90 :: L :: Aq :: hid)).get? b = some o → h₅.get? b = some o := fun b o e => of_hideAll _ e
  have Sl : ∀ a ∈ 76 :: 90 :: L :: Aq :: hid, a < h₅.objs.size := fun a ha => let ⟨_, e, _⟩ := hOdd a ha; Heap.lt_size e
  generalize hG : hideAll h₅ (76 :: 90 :: L :: Aq :: hid) = G at K gG hK₅ limG Gno Gk
  refine wpAny_execs_cons (wpAny_Return_some (compF (cl := [("key", ck)]) (by kernel_rfl) (by decide) rfl (by decide) (by rfl) ?_))
  refine ldX F₅.toFr rfl (wpAny_pyIter_list hR₅.isList ?_)
  dsimp only
  have e6 : (h₅.push { cls := .type "list_iterator", data := .fields #[.ref R, .int 0 0] }).get? h₅.objs.size = some { cls := .type "list_iterator", data := .fields #[.ref R, .int 0 0] } := Heap.get?_push_size _ rfl
  have k6 : ∀ b o, h₅.get? b = some o → (h₅.push { cls := .type "list_iterator", data := .fields #[.ref R, .int 0 0] }).get? b = some o := fun b o e => Heap.get?_push_of_some _ e
  have fI : h₅.get? h₅.objs.size = none := Heap.get?_none_of_le (Nat.le_refl _)
  have lI : L < h₅.objs.size := F₅.ns.lt
  generalize h₅.push _ = h₆ at e6 k6 ⊢
  generalize h₅.objs.size = I at e6 fI lI ⊢
  have RI : R ≠ I := fun z => by obtain ⟨o1, _, x1, _⟩ := hR₅; rw [z, fI] at x1; cases x1
  have hlen : vs.length = ns.length := hI.length
  have GnI : G.get? I = none := by
    cases q : G.get? I with
    | none => rfl
    | some o => rw [Gk _ _ q] at fI; cases fI
  have GnS : ∀ a ∈ I :: 76 :: 90 :: L :: Aq :: hid, G.get? a = none := fun a ha => by
    rcases List.mem_cons.mp ha with rfl | ha
    · exact GnI
    · exact Gno a ha
  refine ⟨I, [I, R], [I], I :: 76 :: 90 :: L :: Aq :: hid, vs.toArray.size, _, _, fun i ys G' => (∀ b o, G.get? b = some o → G'.get? b = some o) ∧ ∃ ka, ys = rowV ka i id ∧ (∀ j, j < i → KeyAt ⟨Cl, nsA, mdA, ltA, iniA, cell, f, ca, Aq⟩ G' (ka j) (ns.getD j 0)) ∧ (∀ a b, a < i → b < i → ka a = ka b → a = b) ∧ ∀ j, j < i → s.heap.objs.size ≤ ka j, rfl,
    Walks.list (by show A.handled = none; exact hh) I R RI vs.toArray, by simp [sizeLine]; omega, ⟨⟨_, e6, rfl, rfl⟩, isList_keep hR₅.isList (k6 _)⟩, ?_, by simp, ?_, ⟨fun b o e => hideAll_get _ (k6 _ _ (Gk b o e)) fun q => (by rw [GnS b q] at e; cases e), fun _ => 0, rfl, (fun j hj => absurd hj (Nat.not_lt_zero _)), (fun a b ha => absurd ha (Nat.not_lt_zero _)), fun j hj => absurd hj (Nat.not_lt_zero _)⟩, ?_, ?_⟩
  · intro b hb
    rcases List.mem_cons.mp hb with rfl | hb
    · exact Heap.lt_size e6
    · obtain rfl := List.mem_singleton.mp hb
      obtain ⟨o1, _, x1, _⟩ := hR₅
      exact Heap.lt_size (k6 _ _ x1)
  · intro b hb
    rcases List.mem_cons.mp hb with rfl | hb
    · exact Heap.lt_size e6
    · obtain ⟨o1, x1, _⟩ := hOdd b hb
      exact Heap.lt_size (k6 _ _ x1)
  · intro C D i v ys G' s₃ m₃ E' lC lD hv hi hF hG' hno hlt hns hm
    obtain ⟨hGG, ka, rfl, hkeys, hinj, hlow⟩ := hF
    refine wpAny_tests_nil ⟨⟨_, _, rfl, fun b o e => e⟩, ?_⟩
    rw [if_pos rfl]
    have hil : i < ns.length := by rw [← hlen]; simpa using hi
    have hv' : vs[i]? = some v := by simpa using hv
    obtain ⟨t, ht⟩ := hI.get (i := i) (n := ns.getD i 0) (by rw [List.getD_eq_getElem?_getD, List.getElem?_eq_getElem hil]; rfl)
    rw [hv'] at ht
    cases ht
    have kp3 : ∀ b o, G.get? b = some o → s₃.heap.get? b = some o := fun b o e => hG' b o (hGG b o e)
    refine Call_ (wpAny_Name (wpAny_loadName_cell (by rfl) (by rfl) (by rfl) (isCell_keep hK₅ kp3) (callWith_key K (args_cons (wpAny_Name (wpAny_loadName_local (by rfl) (by rfl) hns hm (args_nil ⟨kp3, ?_⟩)) (by decide))) kp3)) (by decide))
    refine makeK1 (by rw [depth_deeper]; omega) limG K kp3 ?_
    intro x h₇ tk₇ k7 hx hKA
    refine ⟨h₇, tk₇, rfl, k7, fun b o e => hide_up hG' hno k7 b o (hGG b o e), upd ka i x, ?_, fun j hj => ?_, ?_, fun j hj => ?_⟩
    · have e1 : rowV ka i id ++ [Value.ref x] = (rowV (upd ka i x) (i + 1) id) := by
        unfold rowV
        rw [List.range_succ, List.map_append]
        congr 1
        · apply List.map_congr_left
          intro j hj
          simp only [id_eq]
          rw [upd_ne _ _ (Nat.ne_of_lt (List.mem_range.mp hj))]
        · simp [upd_same]
      exact e1
    · by_cases hji : j = i
      · subst hji
        rw [upd_same]
        exact hKA _ hlt
      · rw [upd_ne _ _ hji]
        exact (hkeys j (by omega)).keeps (hide_up hG' hno k7)
    · have lt : ∀ j, j < i → ka j < x := fun j hj => by
        obtain ⟨d, t, od, e, _⟩ := hkeys j hj
        exact Nat.lt_of_lt_of_le (Heap.lt_size (hG' _ _ e)) hx
      intro a b ha hb hab
      by_cases ea : a = i <;> by_cases eb : b = i
      · omega
      · subst ea; rw [upd_same, upd_ne _ _ eb] at hab
        exact absurd hab (Nat.ne_of_gt (lt b (by omega)))
      · subst eb; rw [upd_same, upd_ne _ _ ea] at hab
        exact absurd hab (Nat.ne_of_lt (lt a (by omega)))
      · rw [upd_ne _ _ ea, upd_ne _ _ eb] at hab
        exact hinj a b (by omega) (by omega) hab
    · by_cases ej : j = i
      · subst ej; rw [upd_same]
        exact Nat.le_trans hL (Nat.le_trans (Nat.le_of_lt lI) (Nat.le_trans (Nat.le_of_lt (hlt I (by repeat (first | exact .head _ | refine .tail _ ?_)))) hx))
      · rw [upd_ne _ _ ej]; exact hlow j (by omega)
  · intro D h' tk ys G' hD hpl hF hGD hGS hGh hk'
    obtain ⟨hGG, ka, rfl, hkeys, hinj, hlow⟩ := hF
    have hsz : vs.toArray.size = ns.length := by simpa using hlen
    rw [hsz] at hkeys hpl hinj hlow
    have cdI : ∀ b o, IsCd o → h₅.get? b = some o → h'.get? b = some o := fun b o q e => hk' b o (by
      intro z
      obtain rfl := List.mem_singleton.mp z
      rw [fI] at e; cases e) (k6 b o e)
    have lts : s.heap.get? D = none := by
      cases q : s.heap.get? D with
      | none => rfl
      | some o =>
        by_cases q1 : D = 76
        · obtain ⟨ps, z, _⟩ := T₅; rw [q1, k6 _ _ z] at hD; cases hD
        by_cases q2 : D = 90
        · obtain ⟨ps, z, _⟩ := T2₅; rw [q2, k6 _ _ z] at hD; cases hD
        rw [k6 _ _ (up D o q1 q2 q)] at hD; cases hD
    refine h ⟨Cl, nsA, mdA, ltA, iniA, cell, f, ca, Aq⟩ ka D G' h' tk rfl (fun b o q1 q2 e => hk' b o (by
      intro z
      obtain rfl := List.mem_singleton.mp z
      rw [up _ _ q1 q2 e] at fI; cases fI) (k6 _ _ (up b o q1 q2 e))) (T₅.cd cdI) (T2₅.cd cdI) ⟨limG.keeps hGG, K.keeps hGG, hkeys, hinj⟩ hlow hGh ?_ hpl lts
    exact fa1 (hGS _ (by repeat (first | exact .head _ | refine .tail _ ?_))) (fa1 (hGS _ (by repeat (first | exact .head _ | refine .tail _ ?_))) (fa1 (hGS _ (by repeat (first | exact .head _ | refine .tail _ ?_))) (fa1 hGD fun b hb => hGS b (by simp [hb]))))
end Mine

end
section
open PySem PySem.W PySem.W.X PyProof.Rows Builtin
set_option linter.unusedVariables false
namespace Mine
set_option maxRecDepth 100000
theorem Fx.many {g h h' : Heap} {L : Addr} {m : Str → Option Value} {muts sub : List Addr} (F : Fx g L h m muts) (hs : ∀ a ∈ sub, a ∈ muts) (k : ∀ b o, b ∉ sub → h.get? b = some o → h'.get? b = some o) : Fx g L h' m muts := by
  obtain ⟨oL, es, ep, hL, r⟩ := F.ns
  have nL : L ∉ sub := fun q => F.apart L (hs L q) rfl
  exact ⟨⟨⟨oL, es, ep, k _ _ nL hL, r⟩, fun b o e => k b o (fun q => by rw [F.free b (hs b q)] at e; cases e) (F.keep b o e), F.above⟩, F.free, F.apart⟩
theorem Fx.more {g h : Heap} {L c : Addr} {m : Str → Option Value} {muts : List Addr} (F : Fx g L h m muts) (h1 : g.get? c = none) (h2 : c ≠ L) : Fx g L h m (c :: muts) :=
  ⟨F.toFr, fun a ha => by rcases List.mem_cons.mp ha with rfl | ha; exact h1; exact F.free a ha, fun a ha => by rcases List.mem_cons.mp ha with rfl | ha; exact h2; exact F.apart a ha⟩
theorem Has.same {g h h' : Heap} {muts : List Addr} {a : Addr} (H : Has g h muts) (ha : a ∈ muts) (hs : Heap.SameBut a h h') : Has g h' muts :=
  ⟨fun b o e => (hs.2 b (fun z => by rw [z, H.free a ha] at e; cases e)).trans (H.keep b o e), by rw [hs.1]; exact H.size, H.free⟩
theorem Has.up {g h h' : Heap} {muts : List Addr} (H : Has g h muts) (k : ∀ b o, h.get? b = some o → h'.get? b = some o) (hs : h.objs.size ≤ h'.objs.size) : Has g h' muts := ⟨fun b o e => k b o (H.keep b o e), Nat.le_trans H.size hs, H.free⟩
section
variable {w : World} {A : Around} {E : Value → Shared → Prop} {s : Shared} {name : Str} {scope : Scope} {L a : Addr} {cd : Value} {cl : List (Str × Addr)}
theorem ldCX {x : Str} {pos : Pos} {v : Value} {c : Addr} {Q : Value → Shared → Prop} (hv : s.heap.IsCell c (some v)) (h : Q v s)
    (hc : cl.lookup x = some c := by rfl) (hk : scope.kind = .function := by rfl) (hx : (envX name scope L a cd cl).kindOf x = some .cell := by rfl) (hb : (x == ("__debug__" : Str)) = false := by decide) :
    wpAny (model prog w) A (eval (.Name x pos) (envX name scope L a cd cl)) Q E s := wpAny_Name (wpAny_loadName_cell hk hx hc hv h) hb
end
end Mine

end
section
open PySem PySem.W PySem.W.X PyProof.Rows Builtin
set_option linter.unusedVariables false
namespace Mine
set_option maxRecDepth 100000
noncomputable def madeSco : Scope := match ((bodyAt 14)[4]? : Option Stmt) with
  | some (Stmt.Return (some (Expr.Tuple [_, Expr.ListComp _ _ sc _] _ _)) _) => sc
  | _ => default
theorem zipApart5 (z : Addr) : ∀ {l1 l2 : Addr}, l1 < z → l2 < z → ZipApart (z + 4) (z + 2) (z + 3) z (z + 1) l1 l2 := fun h1 h2 => zipApart_new h1 h2
theorem Ints.val {vs : List Value} {ns : List Int} (x : Ints vs ns) {i : Nat} {v : Value} (h : vs[i]? = some v) : ∃ t, v = .int (ns.getD i 0) t := by
  have hl := x.length
  have hi : i < vs.length := (List.getElem?_eq_some_iff.mp h).1
  obtain ⟨t, ht⟩ := x.get (i := i) (n := ns.getD i 0) (by rw [List.getD_eq_getElem?_getD, List.getElem?_eq_getElem (by omega)]; rfl)
  rw [h] at ht
  cases ht
  exact ⟨t, rfl⟩
theorem wr_of {z : Addr} {b : Addr} {l : List Addr} (h : ∀ a ∈ l, z ≤ a) (hb : b < z) : b ∉ l := fun q => absurd (h b q) (Nat.not_le.mpr hb)
inductive MO (s : Shared) (Ia H Da C n : Nat) (f : Nat → Nat) (ns : List Int) (k : Nat) (s' : Shared) : Prop
  | mk (h' : Heap) (tk' j : Nat) (ys : List Value) (m' : Str → Option Value) (e1 : s' = { s with heap := h', toks := tk' }) (ek : k = n - j) (hj : j ≤ n) (it : h'.IsListIter Ia H j) (pD : h'.PlainList Da ys.toArray) (yl : ys.length = j) (nC : h'.Ns C m')
      (I : Ints ys ((List.range j).map fun j => ns.getD (f j) 0)) (up : ∀ b o, s.heap.get? b = some o → h'.get? b = some o)
noncomputable def ZS (z D R : Addr) (l1 l2 : Array Value) (i : Nat) (h' : Heap) : Prop :=
  IsZip h' (z + 4) (z + 2) (z + 3) .none ∧ IsPair h' (z + 2) (.ref z) (.ref (z + 1)) ∧ (∃ a b, IsPair h' (z + 3) a b) ∧ h'.IsListIter z D i ∧ h'.IsListIter (z + 1) R i ∧ h'.IsList D l1 ∧ h'.IsList R l2
inductive MI (s : Shared) (z D R Ia H Da C n j fj : Nat) (x : Value) (l1 : Array Value) (vs ys : List Value) (k : Nat) (s' : Shared) : Prop
  | mk (h' : Heap) (tk' i : Nat) (ys' : List Value) (m' : Str → Option Value) (e1 : s' = { s with heap := h', toks := tk' }) (ek : k = n - i) (hi : i ≤ n) (st : ZS z D R l1 vs.toArray i h') (it : h'.IsListIter Ia H j) (pD : h'.PlainList Da ys'.toArray)
      (hy : ys' = ys ++ (if fj < i then vs[fj]?.toList else [])) (nC : h'.Ns C m') (one : m' "one" = some x) (up : ∀ b o, s.heap.get? b = some o → h'.get? b = some o)
set_option maxHeartbeats 2000000 in
theorem madeComp {w : World} {mg mb : Str → Option Value} {A : Around} {E Q : Value → Shared → Prop} {g : Heap} {s : Shared} {L H D R ck cn : Addr} {cd : Value} {m : Str → Option Value} {ka : Nat → Addr} {f : Nat → Nat} {n : Nat} {vs : List Value} {ns : List Int}
    {p1 p2 p3 p4 p5 p6 p7 p8 p9 p10 p11 p12 p13 pos : Pos} {kk : Nat}
    (hh : A.handled = none) (F : Fr g L s.heap m) (S : Sta mg mb g) (hm : m "heap" = some (.ref H)) (hH : PlainL s.heap H (rowV ka n f).toArray) (hD : PlainL s.heap D (rowV ka n id).toArray) (hR : PlainL s.heap R vs.toArray)
    (hI : Ints vs ns) (hln : ns.length = n) (hn : n < 60) (hf : ∀ i, i < n → f i < n) (inj : ∀ i j, i < n → j < n → ka i = ka j → i = j) (hk : ∀ i, i < n → ∃ o, s.heap.get? (ka i) = some o ∧ o.cls ≠ .type "tuple")
    (cK : s.heap.IsCell ck (some (.ref D))) (cN : s.heap.IsCell cn (some (.ref R)))
    (h : ∀ Dr h' tk ws, (∀ b o, s.heap.get? b = some o → h'.get? b = some o) → s.heap.get? Dr = none → PlainL h' Dr ws.toArray → Ints ws ((List.range n).map fun j => ns.getD (f j) 0) → Q (.ref Dr) { s with heap := h', toks := tk }) :
    wpAny (model prog w) A (eval (.ListComp (.Name "number" p1) [⟨.Name "one" p2, .Name "heap" p3, [], 0⟩, ⟨.Tuple [.Name "key" p4, .Name "number" p5] kk p6, .Call (.Name "zip" p7) [.Name "keys" p8, .Name "numbers" p9] [] p10, [.Compare (.Name "one" p11) [.Is] [.Name "key" p12] p13], 0⟩] madeSco pos)
      (envX "_law_made" (scoAt 14) L 98 cd [("keys", ck), ("numbers", cn)])) Q E s := by
  refine compIn (cl := [("numbers", cn), ("keys", ck)]) (by kernel_rfl) (by decide +kernel) rfl (by decide +kernel) ?_
  refine ldX F hm (wpAny_pyIter_list hH.isList ?_)
  intro Da C h₁ tk hDa hC k1 pD nC
  dsimp only at hDa hC k1 pD nC ⊢
  rw [Heap.size_push] at hDa hC
  have up1 : ∀ b o, s.heap.get? b = some o → h₁.get? b = some o := fun b o e => k1 b o (Heap.get?_push_of_some _ e)
  have hit : h₁.IsListIter s.heap.objs.size H 0 := ⟨_, k1 _ _ (Heap.get?_push_size _ rfl), rfl, rfl⟩
  have fresh : ∀ b o, s.heap.get? b = some o → b < s.heap.objs.size := fun b o e => Heap.lt_size e
  generalize hIa : s.heap.objs.size = Ia at *
  have ltl : ∀ {a : Addr} {its : Array Value}, PlainL s.heap a its → a < Ia := by rintro a its ⟨o, _, e, _⟩; exact fresh _ _ e
  refine ⟨fun Q' E' q => wpAny_pyIter_listiter hit q, ?_⟩
  have nIC : Ia ≠ C := by omega
  have lIC : Ia < C := by omega
  have lID : Ia < Da := by omega
  have nID : Ia ≠ Da := by omega
  have nDC : Da ≠ C := by omega
  refine loop_out (MO s Ia H Da C n f ns) ?_ n ⟨h₁, _, 0, [], _, rfl, rfl, Nat.zero_le _, hit, pD, rfl, nC, .nil, up1⟩
  intro k s' E' hI9
  refine hideQ fun Qa EQa hQa => ?_
  obtain ⟨h', tk', j, ys, m', rfl, rfl, hj, hit', pD', hyl, nC', hI', up'⟩ := hI9
  have hH' := pl_keep hH (up' _)
  by_cases hjn : j < n
  · refine wpAny_pyNext_list_item hit' hH'.isList (x := .ref (ka (f j))) (rowV_get hjn) fun h₂ hit₂ hs₂ => hQa _ _ ?_
    dsimp only
    refine wpAny_assign_Name (wpAny_storeName_local (by rfl) (nC'.sameBut hs₂ (Ne.symm nIC)) (fun h₃ nC₃ hs₃ => ?_) (by rfl))
    dsimp only at hs₂ hs₃ nC₃ ⊢
    have up₃ : ∀ b o, s.heap.get? b = some o → h₃.get? b = some o := fun b o e => (hs₃.2 b (Nat.ne_of_lt (Nat.lt_trans (fresh _ _ e) lIC))).trans ((hs₂.2 b (Nat.ne_of_lt (fresh _ _ e))).trans (up' b o e))
    have hit₃ : h₃.IsListIter Ia H (j + 1) := hit₂.extBut hs₃.extBut nIC
    have pD₃ : h₃.PlainList Da ys.toArray := (pD'.at fun o e => (hs₂.2 _ (Ne.symm nID)).trans e).at fun o e => (hs₃.2 _ nDC).trans e
    have F₃ := F.keeps up₃
    refine Call_ (Calls.Name_function_global (env := compEnvC madeSco [("numbers", cn), ("keys", ck)] C (envX "_law_made" (scoAt 14) L 98 cd [("keys", ck), ("numbers", cn)])) (by rfl) (by rfl) (Calls.loadGlobal_builtin (S.G.keeps F₃.keep) S.b_zip.1 (S.B.keeps F₃.keep) S.b_zip.2
      (PyProof.Rows.callWith_type1 (args_cons (wpAny_Name (wpAny_loadName_cell (by rfl) (by rfl) (by rfl) (isCell_keep cK up₃) (args_cons (wpAny_Name (wpAny_loadName_cell (by rfl) (by rfl) (by rfl) (isCell_keep cN up₃) (args_nil ?_)) (by decide)))) (by decide))))) (by decide))
    have D₃ := pl_keep hD (up₃ _)
    have R₃ := pl_keep hR (up₃ _)
    refine call_zip_2 D₃.isList R₃.isList ?_
    intro h₄ z1 z2 z3 z4 z5 z6 k4
    dsimp only at z1 z2 z3 z4 z5 z6 k4 ⊢
    have lC3 : C < h₃.objs.size := nC₃.lt
    have lD3 : Da < h₃.objs.size := by obtain ⟨_, e⟩ := pD₃; exact Heap.lt_size e
    have lI3 : Ia < h₃.objs.size := Nat.lt_trans lIC lC3
    have lR3 : R < h₃.objs.size := R₃.lt
    have lDD3 : D < h₃.objs.size := D₃.lt
    have old3 : ∀ b o, s.heap.get? b = some o → b < h₃.objs.size := fun b o e => Heap.lt_size (up₃ b o e)
    generalize h₃.objs.size = z at z1 z2 z3 z4 z5 z6 lC3 lD3 lI3 lR3 lDD3 old3 ⊢
    have W := WalksT.zip2 (prog := prog) (w := w) (A := A) hh (z + 4) (z + 2) (z + 3) z (z + 1) D R (zipApart5 z lDD3 lR3) (rowV ka n id).toArray vs.toArray
    have hsz : min (rowV ka n id).toArray.size vs.toArray.size = n := by
      have := hI.length
      simp [rowV_len]; omega
    rw [hsz] at W
    have wge : ∀ a ∈ [z + 4, z + 3, z, z + 1], z ≤ a := by
      exact fa1 (P := fun a => z ≤ a) (Nat.le_add_right z 4) (fa1 (P := fun a => z ≤ a) (Nat.le_add_right z 3) (fa1 (P := fun a => z ≤ a) (Nat.le_refl z) (fa1 (P := fun a => z ≤ a) (Nat.le_add_right z 1) fa0)))
    have up₄ : ∀ b o, s.heap.get? b = some o → h₄.get? b = some o := fun b o e => k4 b o (up₃ b o e)
    have pD₄ : h₄.PlainList Da ys.toArray := pD₃.at fun o e => k4 _ _ e
    have nC₄ := nC₃.keeps k4
    have hit₄ : h₄.IsListIter Ia H (j + 1) := hit₃.at fun o e => k4 _ _ e
    have st₄ : ZS z D R (rowV ka n id).toArray vs.toArray 0 h₄ :=
      ⟨z1, z2, ⟨_, _, z3⟩, z4, z5, (pl_keep D₃ (k4 _)).isList, (pl_keep R₃ (k4 _)).isList⟩
    refine wpAny_pyIter_zip z1 ?_
    have loop : codeAny (model prog w) A (.compLoop (comp2 (.Name "number" p1) (.Name "one" p2) (.Name "heap" p3) (.Tuple [.Name "key" p4, .Name "number" p5] kk p6) (.Call (.Name "zip" p7) [.Name "keys" p8, .Name "numbers" p9] [] p10) [.Compare (.Name "one" p11) [.Is] [.Name "key" p12] p13] madeSco pos) 1 (.ref (z + 4)) (.ref Da)
        (compEnvC madeSco [("numbers", cn), ("keys", ck)] C (envX "_law_made" (scoAt 14) L 98 cd [("keys", ck), ("numbers", cn)])))
        (fun r s₅ => (∃ f, r = Except.ok f) ∧ ∃ m, m < n - j ∧ MO s Ia H Da C n f ns m s₅) { s with heap := h₄, toks := tk' + 1 } := by
      have lCz : C < z := lC3
      have lDz : Da < z := lD3
      have lIz : Ia < z := lI3
      have wne : ∀ b, b < z → b ∉ [z + 4, z + 3, z, z + 1] := fun b hb => wr_of wge hb
      have nC7 : ∀ b ∈ [z + 4, z + 2, z + 3, z, z + 1, D, R], b ≠ C := fa1 (P := fun b => b ≠ C) (Nat.ne_of_gt (Nat.lt_of_lt_of_le lCz (Nat.le_add_right z 4))) (fa1 (P := fun b => b ≠ C) (Nat.ne_of_gt (Nat.lt_of_lt_of_le lCz (Nat.le_add_right z 2))) (fa1 (P := fun b => b ≠ C) (Nat.ne_of_gt (Nat.lt_of_lt_of_le lCz (Nat.le_add_right z 3))) (fa1 (P := fun b => b ≠ C) (Nat.ne_of_gt lCz) (fa1 (P := fun b => b ≠ C) (Nat.ne_of_gt (Nat.lt_of_lt_of_le lCz (Nat.le_add_right z 1))) (fa1 (P := fun b => b ≠ C) (Nat.ne_of_lt (Nat.lt_trans (ltl hD) lIC)) (fa1 (P := fun b => b ≠ C) (Nat.ne_of_lt (Nat.lt_trans (ltl hR) lIC)) fa0))))))
      have nD7 : ∀ b ∈ [z + 4, z + 2, z + 3, z, z + 1, D, R], b ≠ Da := fa1 (P := fun b => b ≠ Da) (Nat.ne_of_gt (Nat.lt_of_lt_of_le lDz (Nat.le_add_right z 4))) (fa1 (P := fun b => b ≠ Da) (Nat.ne_of_gt (Nat.lt_of_lt_of_le lDz (Nat.le_add_right z 2))) (fa1 (P := fun b => b ≠ Da) (Nat.ne_of_gt (Nat.lt_of_lt_of_le lDz (Nat.le_add_right z 3))) (fa1 (P := fun b => b ≠ Da) (Nat.ne_of_gt lDz) (fa1 (P := fun b => b ≠ Da) (Nat.ne_of_gt (Nat.lt_of_lt_of_le lDz (Nat.le_add_right z 1))) (fa1 (P := fun b => b ≠ Da) (Nat.ne_of_lt (Nat.lt_trans (ltl hD) lID)) (fa1 (P := fun b => b ≠ Da) (Nat.ne_of_lt (Nat.lt_trans (ltl hR) lID)) fa0))))))
      refine loop_in (MI s z D R Ia H Da C n (j + 1) (f j) (.ref (ka (f j))) (rowV ka n id).toArray vs ys) ?_ n
        ⟨h₄, _, 0, ys, _, rfl, rfl, Nat.zero_le _, st₄, hit₄, pD₄, by simp, nC₄, by rw [if_pos rfl], up₄⟩
      intro k s' E' hI9
      refine hideQ fun Qc EQc hQc => ?_
      obtain ⟨h₅, tk₅, i, ys', m₅, rfl, rfl, hi, st₅, hit₅, pD₅, hys, nC₅, one₅, up₅⟩ := hI9
      by_cases hin : i < n
      · refine W.item i _ _ _ hin st₅ fun T vals h₆ tk₆ hP hT hTup hMid k6 => hQc _ _ ?_
        obtain ⟨x, y, hx, hy, rfl⟩ := hP
        rw [rowV_get hin] at hx
        cases hx
        dsimp only at hT k6 ⊢
        refine W.go _ kk p6 i T _ _ _ hMid fun h₇ st₇ k7 => ?_
        dsimp only at k7 ⊢
        refine hideQ fun Qd Ed hQd => ?_
        have hTup₇ := hTup.at fun o e => k7 _ o (W.apart _ _ _ hMid) e
        refine wpAny_assign_Tuple hh hTup₇ (by rfl) (by rfl) fun h₈ x8 => ?_
        dsimp only at x8 ⊢
        have k8 : ∀ b o, h₇.get? b = some o → h₈.get? b = some o := fun b o e => x8 b o (Nat.ne_of_lt (Heap.lt_size e)) e
        have k58 : ∀ b o, b < z → h₅.get? b = some o → h₈.get? b = some o := fun b o hb e => k8 b o (k7 b o (wne b hb) (k6 b o (wne b hb) e))
        have nC₈ : h₈.Ns C m₅ := nC₅.at' fun o e => k58 _ o lCz e
        refine wpAny_bind (wpAny_holding (wpAny_assign_Name (wpAny_storeName_local (by rfl) nC₈ (fun h₉ nC₉ hs₉ => ?_) (by rfl))))
        dsimp only at nC₉ hs₉ ⊢
        refine wpAny_bind (wpAny_holding (wpAny_assign_Name (wpAny_storeName_local (by rfl) nC₉ (fun h₁₀ nC₁₀ hs₁₀ => wpAny_pure (hQd _ _ ?_)) (by rfl))))
        dsimp only at nC₁₀ hs₁₀ ⊢
        have k10 : ∀ b o, b ≠ C → h₈.get? b = some o → h₁₀.get? b = some o := fun b o q e => (hs₁₀.2 b q).trans ((hs₉.2 b q).trans e)
        have up₁₀ : ∀ b o, s.heap.get? b = some o → h₁₀.get? b = some o := fun b o e => k10 b o (Nat.ne_of_lt (Nat.lt_trans (fresh _ _ e) lIC)) (k58 b o (old3 b o e) (up₅ b o e))
        have pD₁₀ : h₁₀.PlainList Da ys'.toArray := pD₅.at fun o e => k10 _ o nDC (k58 _ o lDz e)
        have hit₁₀ : h₁₀.IsListIter Ia H (j + 1) := hit₅.at fun o e => k10 _ o nIC (k58 _ o lIz e)
        have st₁₀ := W.frame (i + 1) h₇ h₁₀ st₇ fun b hb o e => k10 b o (nC7 b hb) (k8 b o e)
        have one₁₀ : (fun y_1 => if y_1 = Str.ofString "number" then some y else if y_1 = Str.ofString "key" then some (Value.ref (ka i)) else m₅ y_1) (Str.ofString "one") = some (.ref (ka (f j))) := by
          show (if Str.ofString "one" = Str.ofString "number" then _ else _) = _
          rw [if_neg (by decide), if_neg (by decide)]
          exact one₅
        have key₁₀ : (fun y_1 => if y_1 = Str.ofString "number" then some y else if y_1 = Str.ofString "key" then some (Value.ref (ka i)) else m₅ y_1) (Str.ofString "key") = some (.ref (ka i)) := by
          show (if Str.ofString "key" = Str.ofString "number" then _ else _) = _
          rw [if_neg (by decide), if_pos rfl]
        refine hideQ fun Qe Ee hQe => ?_
        refine wpAny_tests_one (wpAny_isTrue_Compare1 (wpAny_Name (wpAny_loadName_local (by rfl) (by rfl) nC₁₀ one₁₀ (wpAny_Name (wpAny_loadName_local (by rfl) (by rfl) nC₁₀ key₁₀ ?_) (by decide))) (by decide)))
        by_cases hji : f j = i
        · rw [hji]
          refine wpAny_is_ref_self (wpAny_truthy_bool (hQe _ _ ?_))
          rw [if_pos rfl]
          refine wpAny_Name (wpAny_loadName_local (by rfl) (by rfl) nC₁₀ (v := y) (by rw [if_pos rfl]) ?_) (by decide)
          have e0 : ys' = ys := by rw [hys, if_neg (by omega)]; simp
          refine wpAny_list_append_plain (hsz := by rw [List.size_toArray, e0, hyl]; simp [sizeLine]; omega) pD₁₀ fun h₁₁ pD₁₁ hs₁₁ => ?_
          dsimp only at hs₁₁ ⊢
          rw [List.push_toArray] at pD₁₁
          refine ⟨n - (i + 1), by omega, h₁₁, _, i + 1, ys' ++ [y], _, rfl, rfl, hin, W.frame (i + 1) h₁₀ h₁₁ st₁₀ fun b hb o e => (hs₁₁.2 b (nD7 b hb)).trans e, hit₁₀.at fun o e => (hs₁₁.2 _ nID).trans e, pD₁₁, ?_, nC₁₀.sameBut hs₁₁ (Ne.symm nDC), one₁₀, fun b o e => (hs₁₁.2 b (Nat.ne_of_lt (Nat.lt_trans (fresh _ _ e) lID))).trans (up₁₀ b o e)⟩
          rw [e0, if_pos (by omega)]
          have : vs[i]? = some y := by simpa using hy
          rw [hji, this]; rfl
        · obtain ⟨o1, e1, c1⟩ := hk (f j) (hf j hjn)
          obtain ⟨o2, e2, c2⟩ := hk i hin
          refine wpAny_is_ref_other (fun q => hji (inj _ _ (hf j hjn) hin q)) (up₁₀ _ _ e1) (up₁₀ _ _ e2) c1 (wpAny_truthy_bool (hQe _ _ ?_))
          rw [if_neg (by decide)]
          refine ⟨n - (i + 1), by omega, h₁₀, _, i + 1, ys', _, rfl, rfl, hin, st₁₀, hit₁₀, pD₁₀, ?_, nC₁₀, one₁₀, up₁₀⟩
          rw [hys]
          congr 1
          by_cases hlt : f j < i
          · rw [if_pos hlt, if_pos (by omega)]
          · rw [if_neg hlt, if_neg (by omega)]
      · obtain rfl : i = n := Nat.le_antisymm hi (Nat.not_lt.mp hin)
        refine W.done _ _ _ st₅ fun h₆ tk₆ k6 => hQc _ _ ?_
        dsimp only at k6 ⊢
        have hfj := hf j hjn
        obtain ⟨y, hy⟩ : ∃ y, vs[f j]? = some y := ⟨_, List.getElem?_eq_getElem (by rw [hI.length, hln]; exact hfj)⟩
        obtain ⟨ty, rfl⟩ := hI.val hy
        rw [if_pos hfj, hy] at hys
        refine ⟨⟨_, rfl⟩, _, by omega, h₆, _, j + 1, ys', m₅, rfl, rfl, hjn, hit₅.at fun o e => k6 _ o (wne _ lIz) e, pD₅.at fun o e => k6 _ o (wne _ lDz) e, ?_, nC₅.at' fun o e => k6 _ o (wne _ lCz) e, ?_, fun b o e => k6 b o (wne _ (old3 b o e)) (up₅ b o e)⟩
        · rw [hys]; simp [hyl]
        · rw [hys, List.range_succ, List.map_append]
          exact hI'.snoc
    exact start_in loop fun E' => wpAny_pyIter_zip z1 loop
  · obtain rfl : j = n := Nat.le_antisymm hj (Nat.not_lt.mp hjn)
    refine wpAny_pyNext_list_end hh hit' hH'.isList (by simp [rowV_len]) fun h₂ he => hQa _ _ ?_
    refine ⟨rfl, m', nC'.extBut he (Ne.symm nIC), fun h₃ hs₃ => ?_⟩
    have up₂ : ∀ b o, s.heap.get? b = some o → h₃.get? b = some o := fun b o e => (hs₃.2 b (Nat.ne_of_lt (Nat.lt_trans (fresh _ _ e) lIC))).trans (he b o (Nat.ne_of_lt (fresh _ _ e)) (up' b o e))
    refine h Da h₃ _ ys up₂ ?_ (plainL_of ((pD'.at fun o e => he _ _ (Ne.symm nID) e).at fun o e => (hs₃.2 _ nDC).trans e)) hI'
    cases q : s.heap.get? Da with
    | none => rfl
    | some o => exact absurd (fresh _ _ q) (Nat.not_lt.mpr (Nat.le_of_lt lID))
end Mine

end
section
open PySem PySem.W PySem.W.X PyProof.Rows Builtin
set_option linter.unusedVariables false
namespace Mine
set_option maxRecDepth 100000
set_option maxHeartbeats 2000000 in
theorem made1 {w : World} {mg mb : Str → Option Value} {A : Around} {E Q : Value → Shared → Prop} {g : Heap} {s : Shared} {R : Addr} {vs : List Value} {ns : List Int}
    (hh : A.handled = none) (hd : A.depth + 24 < recursionLimit) (hu : A.units + 200 < cLine) (S : Sta2 mg mb g) (HS : Has g s.heap [76, 90]) (T : ClsTab s.heap) (T2 : TabAt s.heap 90 K1 []) (hR : PlainL s.heap R vs.toArray) (hI : Ints vs ns) (hn : ns.length < 60)
    (h : ∀ h' tk t D1 D2 qs ws zz, Has g h' [76, 90] → (∀ b o, b ≠ 76 → b ≠ 90 → s.heap.get? b = some o → h'.get? b = some o) → ClsTab h' → TabAt h' 90 K1 [] → h'.get? t = some { cls := .type "tuple", data := .seq #[.ref D1, .ref D2] } → s.heap.get? t = none → s.heap.get? D1 = none → s.heap.get? D2 = none →
      PlainL h' D1 qs.toArray → Pairs zz h' qs (intLog (fun j => ns.getD j 0) (hy (fun j => ns.getD j 0) ns.length (ns.length / 2) (fun i => i) []).2) →
      PlainL h' D2 ws.toArray → Ints ws ((List.range ns.length).map fun j => ns.getD ((hy (fun j => ns.getD j 0) ns.length (ns.length / 2) (fun i => i) []).1 j) 0) → Q (.ref t) { s with heap := h', toks := tk }) :
    wpAny (model prog w) A (call (.ref 98) [.ref R]) Q E s := by
  refine wpAny_call ?_
  obtain ⟨o, pm, cd, doc, eo, ed, ec⟩ := S.f_made
  have lm : ∀ a ∈ [(76 : Addr), 90], a < s.heap.objs.size := by
    intro a ha
    rcases List.mem_cons.mp ha with rfl | ha
    · exact let ⟨_, e, _⟩ := odd_cls T; Heap.lt_size e
    · obtain rfl := List.mem_singleton.mp ha
      exact T2.addr
  refine enterCs (cells := fun L => [("keys", L + 1 + 1), ("numbers", L + 1)]) (by omega) HS lm eo ed S.lim ec (binds := [("numbers", .ref R)]) (m := fun _ => none) (cm := fun y => if y = "numbers" then some (.ref R) else none) (by rfl) (fun _ => by rfl) ?_ (fun _ _ _ => by rfl) (fun _ _ _ => by rfl) ?_
  · intro y hy
    obtain rfl := List.mem_singleton.mp hy
    refine .inr ⟨show List.lookup (Str.ofString "numbers") (scoAt 14).names = some NameKind.cell by decide +kernel, fun n => ?_⟩
    show (List.lookup (Str.ofString "numbers") [(Str.ofString "keys", n + 1 + 1), (Str.ofString "numbers", n + 1)]).isSome = true
    rfl
  intro L h₁ tk F hc hap hab hk hL
  have cN := hc "numbers" (L + 1) (by rfl)
  have cK := hc "keys" (L + 1 + 1) (by rfl)
  rw [if_pos rfl] at cN
  rw [if_neg (by decide)] at cK
  have cne : L + 1 ≠ L + 1 + 1 := Nat.ne_of_lt (Nat.lt_succ_self _)
  have lk : L < L + 1 + 1 := Nat.lt_succ_of_lt (Nat.lt_succ_self _)
  have lN : L < L + 1 := Nat.lt_succ_self _
  clear hc hap hab
  generalize hck : L + 1 + 1 = ck at *
  generalize hcn : L + 1 = cn at *
  clear hck hcn
  have gL : g.get? L = none := Heap.get?_none_of_le F.above
  have gck : g.get? ck = none := Heap.get?_none_of_le (Nat.le_trans F.above (Nat.le_of_lt lk))
  have T₁ := T.cd fun b o _ e => hk b o e
  have T2₁ := T2.keeps hk
  have hR₁ : PlainL h₁ R vs.toArray := pl_keep hR (hk _)
  refine wpAny_execs_cons (wpAny_Assign_Name (List_ (args_nil (wpAny_newObj_type ?_ (by show (0 : Nat) ≤ sizeLine; decide)))))
  dsimp only
  have F₂ := F.grow { cls := .type "list", data := .seq #[] }
  have P₂ := newPlain (h := h₁) #[]
  have up₂ : ∀ b o, h₁.get? b = some o → (h₁.push { cls := .type "list", data := .seq #[] }).get? b = some o := fun b o e => Heap.get?_push_of_some _ e
  have fAq : h₁.get? h₁.objs.size = none := Heap.get?_none_of_le (Nat.le_refl _)
  generalize h₁.objs.size = Aq at F₂ P₂ fAq ⊢
  have e0 : ([] : List Value).toArray = #[] := rfl
  rw [e0]
  generalize h₁.push _ = h₂ at F₂ P₂ up₂ ⊢
  refine stX F₂ ?_
  intro h₃ F₃ hs₃
  dsimp only at F₃ hs₃ ⊢
  have nd₃ := ns_nd F₂.ns hs₃
  have T₃ := (T₁.cd fun b o _ e => up₂ b o e).cd fun b o q e => nd₃ b o (cd_ne q) e
  have T2₃ := (T2₁.keeps up₂).cd fun b o q e => nd₃ b o (cd_ne q) e
  have P₃ := pl_same P₂ hs₃ (F₂.apart Aq (by repeat (first | exact .head _ | refine .tail _ ?_)))
  have hR₃ : PlainL h₃ R vs.toArray := pl_same (pl_keep hR₁ (up₂ _)) hs₃ (pl_ne_ns F₂.ns (pl_keep hR₁ (up₂ _)))
  have cN₃ := cell_ns F₂.ns hs₃ (cell_up cN (up₂ _))
  have cK₃ := cell_ns F₂.ns hs₃ (cell_up cK (up₂ _))
  have gsub : ∀ b o, g.get? b = some o → b ∉ (76 :: 90 :: Aq :: [L, ck] : List Addr) := fun b o e =>
    nm_of e (fa1 (F₃.free _ (.tail _ (.head _))) (fa1 (F₃.free _ (.tail _ (.tail _ (.head _)))) (fa1 (F₃.free _ (.head _)) (fa1 gL (fa1 gck fa0)))))
  obtain ⟨o', pm', doc', e', d', c'⟩ := S.f_keys
  refine wpAny_execs_cons (wpAny_Assign_Name (Call_ (ldGX F₃.toFr S.G S.g_keys (callWith_def d' (args_cons (ldCX cN₃ (args_cons (ldX F₃.toFr rfl (args_nil ⟨F₃.keep _ _ e', ?_⟩)))))))))
  refine keys1 (g := hideAll h₃ (76 :: 90 :: Aq :: [L, ck])) (by show A.handled = none; exact hh) (by rw [depth_deeper]; omega) (S.keeps fun b o e => hideAll_get _ (F₃.keep b o e) (gsub b o e)) (has_hide h₃ _) T₃ T2₃ hR₃ hI P₃ hn ?_ ?_
  · intro a ha
    rcases List.mem_cons.mp ha with rfl | ha
    · exact ⟨odd_ns F₃.ns (by rw [if_neg (by decide)]), Ne.symm (F₃.apart 76 (by repeat (first | exact .head _ | refine .tail _ ?_))), Ne.symm (F₃.apart 90 (by repeat (first | exact .head _ | refine .tail _ ?_)))⟩
    · obtain rfl := List.mem_singleton.mp ha
      exact ⟨odd_cell cK₃, cell_ne_tab T₃ T2₃ cK₃⟩
  intro k ka D G h₄ tk₄ hkA k4 T₄ T2₄ M hlow hG hGno hpl hD
  dsimp only at k4 hD ⊢
  have F₄ := F₃.many (sub := [76, 90]) (by repeat' (first | exact fa0 | exact .head _ | refine fa1 ?_ ?_ | refine .tail _ ?_)) (fun b o q e => k4 b o (fun z => q (by rw [z]; exact .head _)) (fun z => q (by rw [z]; exact .tail _ (.head _))) e)
  have cK₄ : h₄.IsCell ck none := cell_up cK₃ fun o e => k4 _ o (cell_ne_tab T₃ T2₃ cK₃).1 (cell_ne_tab T₃ T2₃ cK₃).2 e
  have cN₄ : h₄.IsCell cn (some (.ref R)) := cell_up cN₃ fun o e => k4 _ o (cell_ne_tab T₃ T2₃ cN₃).1 (cell_ne_tab T₃ T2₃ cN₃).2 e
  refine wpAny_storeName_cell (c := ck) (by rfl) (by rfl) (by rfl) cK₄ ?_
  intro h₅ cK₅ hs₅
  dsimp only at hs₅ ⊢
  have nc₅ := cell_nc cK₄ hs₅
  have F₅ := F₄.turn' (a := ck) gck (Nat.ne_of_gt lk) hs₅.extBut
  have G₅ : ∀ b o, G.get? b = some o → h₅.get? b = some o := fun b o e => (hs₅.2 b (fun z => by rw [z, hGno ck (by repeat (first | exact .head _ | refine .tail _ ?_))] at e; cases e)).trans (hG b o e)
  have T₅ := T₄.cd fun b o q e => nc₅ b o (cd_cell q) e
  have T2₅ := T2₄.cd fun b o q e => nc₅ b o (cd_cell q) e
  have pl5 : ∀ {a : Addr} {its : Array Value}, PlainL h₄ a its → PlainL h₅ a its := fun {a its} x => pl_same x hs₅ (pl_ne_cell cK₄ x)
  have P₅ : PlainL h₅ Aq #[] := pl5 (pl_keep P₃ fun o e => k4 _ _ (pl_ne_tab T₃ T2₃ P₃).1 (pl_ne_tab T₃ T2₃ P₃).2 e)
  have hR₅ : PlainL h₅ R vs.toArray := pl5 (pl_keep hR₃ fun o e => k4 _ _ (pl_ne_tab T₃ T2₃ hR₃).1 (pl_ne_tab T₃ T2₃ hR₃).2 e)
  have D₅ := pl5 hpl
  have cN₅ : h₅.IsCell cn (some (.ref R)) := cell_up cN₄ fun o e => (hs₅.2 _ cne).trans e
  refine wpAny_execs_cons (wpAny_Assign_Name (wpAny_Subscript_list_slice (ldCX cK₅ (wpAny_evalPart_none (wpAny_evalPart_none ⟨D, _, _, _, rfl, D₅.isList, by simp [rowV_len, sizeLine]; omega, .none, .none, ?_⟩)))))
  have sz1 : (h₅.push { cls := .type "slice", data := .fields #[.none, .none, .none] }).objs.size = h₅.objs.size + 1 := Heap.size_push ..
  have F₆ := (F₅.push { cls := .type "slice", data := .fields #[.none, .none, .none] }).grow { cls := .type "list", data := .seq (slicePick (rowV ka ns.length id).toArray none none none) }
  have Pn := newPlain (h := h₅.push { cls := .type "slice", data := .fields #[.none, .none, .none] }) (slicePick (rowV ka ns.length id).toArray none none none)
  have up₆ : ∀ b o, h₅.get? b = some o → ((h₅.push { cls := .type "slice", data := .fields #[.none, .none, .none] }).push { cls := .type "list", data := .seq (slicePick (rowV ka ns.length id).toArray none none none) }).get? b = some o := fun b o e => Heap.get?_push_of_some _ (Heap.get?_push_of_some _ e)
  have fH : h₅.get? (h₅.push { cls := .type "slice", data := .fields #[.none, .none, .none] }).objs.size = none := Heap.get?_none_of_le (by rw [sz1]; exact Nat.le_succ _)
  rw [sz1] at F₆ Pn fH
  dsimp only
  generalize h₅.objs.size + 1 = H at F₆ Pn fH ⊢
  generalize (h₅.push _).push _ = h₆ at F₆ Pn up₆ ⊢
  rw [slicePick_all] at Pn
  refine stX F₆ ?_
  intro h₇ F₇ hs₇
  dsimp only at F₇ hs₇ ⊢
  have nd₇ := ns_nd F₆.ns hs₇
  have HA : H ≠ Aq := fun z => by
    obtain ⟨o1, n1, x1, _⟩ := P₅
    rw [z, x1] at fH; cases fH
  have G₇ : ∀ b o, G.get? b = some o → h₇.get? b = some o := fun b o e => (hs₇.2 b (fun z => by rw [z, hGno L (by repeat (first | exact .head _ | refine .tail _ ?_))] at e; cases e)).trans (up₆ _ _ (G₅ b o e))
  have GH : G.get? H = none := by
    cases q : G.get? H with
    | none => rfl
    | some o => rw [G₅ _ _ q] at fH; cases fH
  have pl7 : ∀ {a : Addr} {its : Array Value}, PlainL h₅ a its → PlainL h₇ a its := fun {a its} x => pl_same (pl_keep x (up₆ _)) hs₇ (pl_ne_ns F₆.ns (pl_keep x (up₆ _)))
  have P₇ := pl7 P₅
  have hR₇ := pl7 hR₅
  have D₇ := pl7 D₅
  have H₇ : PlainL h₇ H (rowV ka ns.length (fun i => i)).toArray := pl_same Pn hs₇ (F₆.apart H (by repeat (first | exact .head _ | refine .tail _ ?_)))
  have cK₇ := cell_ns F₆.ns hs₇ (cell_up cK₅ (up₆ _))
  have cN₇ := cell_ns F₆.ns hs₇ (cell_up cN₅ (up₆ _))
  have T₇ := (T₅.cd fun b o _ e => up₆ b o e).cd fun b o q e => nd₇ b o (cd_ne q) e
  have T2₇ := (T2₅.keeps up₆).cd fun b o q e => nd₇ b o (cd_ne q) e
  have Gg : ∀ b o, G.get? b = some o → (hideAll h₇ [H, Aq]).get? b = some o := fun b o e => hideAll_get _ (G₇ b o e) (nm_of e (fa1 GH (fa1 (hGno _ (by repeat (first | exact .head _ | refine .tail _ ?_))) fa0)))
  have Cx : Ctx1 w (KWd k ka (fun j => ns.getD j 0) ns.length) ka (fun j => ns.getD j 0) ns.length Aq H := ⟨kwd_mono, hkA ▸ ltSpec, HA⟩
  have R₇ : Row1 ka (fun j => ns.getD j 0) ns.length Aq H h₇ ns.length (fun i => i) [] [] := ⟨H₇, P₇, .nil, fun i hi => hi⟩
  have hn2 : ns.length * ns.length ≤ 59 * 59 := Nat.mul_le_mul (by omega) (by omega)
  obtain ⟨o', pm', cd', doc', e', d', c'⟩ := S.f_heapify
  refine wpAny_execs_cons (wpAny_If (wpAny_isTrue_Compare1 (Call_ (ldGX F₇.toFr S.G S.g_heapify (callWith_def d' (args_cons (ldX F₇.toFr rfl (args_nil ⟨F₇.keep _ _ e', ?_⟩))))))))
  refine heapify1 Cx (g := hideAll h₇ [H, Aq]) (by show A.handled = none; exact hh) (by rw [depth_deeper]; omega) (by rw [units_deeper]; omega) (S.toSta.keeps (has_sub F₇.has (by repeat' (first | exact fa0 | exact .head _ | refine fa1 ?_ ?_ | refine .tail _ ?_)))) ⟨M.lim.keeps Gg, M.cl.keeps Gg, fun j hj => (M.keys j hj).keeps Gg⟩ (has_hide h₇ [H, Aq]) R₇ (by
    have : 2 * ns.length * ns.length = 2 * (ns.length * ns.length) := Nat.mul_assoc ..
    rw [this]; simp; omega) hn ?_
  intro h₈ tk₈ qs₈ H₈ R₈
  dsimp only
  have F₈ := F₇.back (sub := [H, Aq]) (by repeat' (first | exact fa0 | exact .head _ | refine fa1 ?_ ?_ | refine .tail _ ?_)) H₈
  refine wpAny_Constant_none (wpAny_isNot_self (by rfl) (wpAny_truthy_bool ?_))
  rw [if_neg (by decide)]
  refine wpAny_execs_nil ?_
  dsimp only
  have ltR : R ≠ Aq := fun z => by
    obtain ⟨o1, n1, x1, _⟩ := hR₁
    rw [z, fAq] at x1; cases x1
  have nH : ∀ {b : Addr} {o : Obj}, h₅.get? b = some o → b ≠ H := fun {b o} e z => by rw [z, fH] at e; cases e
  have hR₈ : PlainL h₈ R vs.toArray := pl_back hR₇ H₈ (nm1 (let ⟨_, _, e, _⟩ := hR₅; nH e) (nm1 ltR nm0))
  have D₈ : PlainL h₈ D (rowV ka ns.length id).toArray := pl_back D₇ H₈ (nm1 (let ⟨_, _, e, _⟩ := D₅; nH e) (nm1 (fun z => by
    obtain ⟨o1, n1, x1, _⟩ := P₃
    rw [z, x1] at hD; cases hD) nm0))
  have nl : ∀ b o, (∀ vs n, o.data ≠ .seq vs n) → h₇.get? b = some o → h₈.get? b = some o := fun b o q e => H₈.keep b o (hideAll_get _ e (nm1 (by rintro rfl; obtain ⟨o1, n1, x1, _, _, x4⟩ := H₇; rw [e] at x1; cases x1; exact q _ _ x4) (nm1 (by rintro rfl; obtain ⟨o1, n1, x1, _, _, x4⟩ := P₇; rw [e] at x1; cases x1; exact q _ _ x4) nm0)))
  have cd_nl : ∀ {o : Obj}, IsCd o → ∀ vs n, o.data ≠ .seq vs n := by
    intro o x vs n q
    rcases x with ⟨ps, rfl⟩ | ⟨vs, _, _, e, _⟩
    · cases q
    · rw [e] at q; cases q
  have T₈ := T₇.cd fun b o q e => nl b o (cd_nl q) e
  have T2₈ := T2₇.cd fun b o q e => nl b o (cd_nl q) e
  have cell8 : ∀ {c : Addr} {v : Option Value}, h₇.IsCell c v → h₈.IsCell c v := by
    rintro c v ⟨oc, a1, a2⟩
    exact ⟨oc, nl _ _ (by intro _ _ z; rw [a2] at z; cases z) a1, a2⟩
  have up8 : ∀ b o, b ≠ 76 → b ≠ 90 → s.heap.get? b = some o → h₈.get? b = some o := fun b o q1 q2 e => by
    have lb := Nat.lt_of_lt_of_le (Heap.lt_size e) hL
    have e3 := (hs₃.2 b (Nat.ne_of_lt lb)).trans (up₂ _ _ (hk b o e))
    have e5 := (hs₅.2 b (Nat.ne_of_lt (Nat.lt_trans lb lk))).trans (k4 b o q1 q2 e3)
    refine H₈.keep b o (hideAll_get _ ((hs₇.2 b (Nat.ne_of_lt lb)).trans (up₆ _ _ e5)) ?_)
    exact nm1 (nH e5) (nm1 (fun z => by rw [z] at e; rw [hk _ _ e] at fAq; cases fAq) nm0)
  refine wpAny_execs_cons (wpAny_Return_some (Tuple_ (args_cons (ldX F₈.toFr rfl (args_cons ?_)))))
  refine madeComp (by show A.handled = none; exact hh) F₈.toFr S.toSta rfl R₈.row D₈ hR₈ hI rfl hn R₈.low M.inj (fun i hi => ?_) (cell8 cK₇) (cell8 cN₇) (fun Dr h₉ tk₉ ws k9 fDr pDr iw => args_nil (wpAny_newObj_type ?_ (by show (2 : Nat) ≤ sizeLine; decide)))
  · obtain ⟨d, t, od, e, _⟩ := M.keys i hi
    exact ⟨_, H₈.keep _ _ (Gg _ _ e), by intro q; cases q⟩
  dsimp only at k9 fDr ⊢
  have k10 : ∀ b o, h₈.get? b = some o → (h₉.push { cls := .type "tuple", data := .seq #[.ref Aq, .ref Dr] }).get? b = some o := fun b o e => Heap.get?_push_of_some _ (k9 b o e)
  have F₉ : Fx g L h₉ _ [H, Aq, 76, 90] := ⟨F₈.toFr.keeps k9, F₈.free, F₈.apart⟩
  have ft : s.heap.get? h₉.objs.size = none := Heap.get?_none_of_le (Nat.le_trans hL (Nat.le_of_lt F₉.ns.lt))
  have et : (h₉.push { cls := .type "tuple", data := .seq #[.ref Aq, .ref Dr] }).get? h₉.objs.size = some { cls := .type "tuple", data := .seq #[.ref Aq, .ref Dr] } := Heap.get?_push_size _ rfl
  have F₁₀ := F₉.push { cls := .type "tuple", data := .seq #[.ref Aq, .ref Dr] }
  have k11 : ∀ b o, h₉.get? b = some o → (h₉.push { cls := .type "tuple", data := .seq #[.ref Aq, .ref Dr] }).get? b = some o := fun b o e => Heap.get?_push_of_some _ e
  refine h (h₉.push { cls := .type "tuple", data := .seq #[.ref Aq, .ref Dr] }) _ h₉.objs.size Aq Dr qs₈ ws _ (F₁₀.has.less (by repeat' (first | exact fa0 | exact .head _ | refine fa1 ?_ ?_ | refine .tail _ ?_))) (fun b o q1 q2 e => k10 b o (up8 b o q1 q2 e)) (T₈.cd fun b o _ e => k10 b o e) (T2₈.keeps k10) et ft ?_ ?_ (pl_keep R₈.ask (k10 _)) (R₈.prs.mono fun a i t j u hl => isList_keep hl (k10 _)) (pl_keep pDr (k11 _)) iw
  · cases q : s.heap.get? Aq with
    | none => rfl
    | some o => rw [hk _ _ q] at fAq; cases fAq
  · cases q : s.heap.get? Dr with
    | none => rfl
    | some o =>
      by_cases q1 : Dr = 76
      · obtain ⟨ps, z, _⟩ := T₈; rw [q1, z] at fDr; cases fDr
      by_cases q2 : Dr = 90
      · obtain ⟨ps, z, _⟩ := T2₈; rw [q2, z] at fDr; cases fDr
      rw [up8 _ _ q1 q2 q] at fDr; cases fDr
end Mine

end
section
open PySem PySem.W PySem.W.X PyProof.Rows Builtin
set_option linter.unusedVariables false
namespace Mine
set_option maxRecDepth 100000
theorem lkn2 {m : Str → Option Value} {y x1 x2 : Str} {v1 v2 w : Option Value} (hy : m y = w) (h1 : y ≠ x1 := by decide) (h2 : y ≠ x2 := by decide) : (if y = x1 then v1 else if y = x2 then v2 else m y) = w := by rw [if_neg h1, if_neg h2]; exact hy
theorem lkne {m : Str → Option Value} {y x1 : Str} {v1 : Option Value} {v : Value} (h1 : y ≠ x1 := by decide) : (if y = x1 then v1 else if y = y then some v else m y) = some v := by rw [if_neg h1, if_pos rfl]
theorem ups_le (s : Nat) : ∀ k p, ups s k p ≤ k
  | 0, _ => by simp [ups]
  | k + 1, p => by
    unfold ups
    split
    · have := ups_le s k ((p - 1) / 2); omega
    · omega
theorem pus_len (v : Nat → Int) : ∀ n, (pus v n).2.1.length ≤ n * n
  | 0 => by simp [pus]
  | n + 1 => by
    have h1 := pus_len v n
    have h2 : (pus v (n + 1)).2.1.length ≤ (pus v n).2.1.length + ups 0 n n := sd_len v n 0 n _ n _
    have h3 := ups_le 0 n n
    have : (n + 1) * (n + 1) = n * n + 2 * n + 1 := by rw [Nat.add_mul, Nat.mul_add]; omega
    omega
theorem Fx.less {g h : Heap} {L : Addr} {m : Str → Option Value} {muts sub : List Addr} (F : Fx g L h m muts) (hs : ∀ a ∈ sub, a ∈ muts) : Fx g L h m sub := ⟨F.toFr, fun a ha => F.free a (hs a ha), fun a ha => F.apart a (hs a ha)⟩
theorem cd_nl {o : Obj} (x : IsCd o) : ∀ vs n, o.data ≠ .seq vs n := by
  intro vs n q
  rcases x with ⟨ps, rfl⟩ | ⟨vs, _, _, e, _⟩
  · cases q
  · rw [e] at q; cases q
/-- what a step keeps that turns one list -/
theorem li_keep {h h' : Heap} {a : Addr} {its : Array Value} (x : PlainL h a its) (hs : Heap.SameBut a h h') : ∀ b o, (∀ vs n, o.data ≠ .seq vs n) → h.get? b = some o → h'.get? b = some o := fun b o q e => (hs.2 b (fun z => by
  obtain ⟨o1, n1, x1, _, _, x4⟩ := x
  rw [z, x1] at e; cases e; exact q _ _ x4)).trans e
theorem sub_keep {h h' : Heap} {sub : List Addr} (hs : ∀ a ∈ sub, ∃ its, PlainL h a its) (H : Has (hideAll h sub) h' sub) : ∀ b o, (∀ vs n, o.data ≠ .seq vs n) → h.get? b = some o → h'.get? b = some o := fun b o q e => H.keep b o (hideAll_get _ e fun z => by
  obtain ⟨its, o1, n1, x1, _, _, x4⟩ := hs b z
  rw [x1] at e; cases e; exact q _ _ x4)
theorem it_keep {h h' : Heap} {it l : Addr} {i : Nat} (x : h.IsListIter it l i) (hs : Heap.SameBut it h h') : ∀ b o, IsCd o → h.get? b = some o → h'.get? b = some o := fun b o q e => (hs.2 b (fun z => by
  obtain ⟨o1, x1, _, x3⟩ := x
  rw [z, x1] at e; cases e
  rcases q with ⟨ps, rfl⟩ | ⟨vs, _, _, e1, e2⟩
  · rename_i x2; cases x2
  · rw [x3] at e1; cases e1; cases e2)).trans e
theorem itx_keep {h h' : Heap} {it l : Addr} {i : Nat} (x : h.IsListIter it l i) (hs : Heap.ExtBut it h h') : ∀ b o, IsCd o → h.get? b = some o → h'.get? b = some o := fun b o q e => hs b o (fun z => by
  obtain ⟨o1, x1, x2, x3⟩ := x
  rw [z, x1] at e; cases e
  rcases q with ⟨ps, rfl⟩ | ⟨vs, _, _, e1, e2⟩
  · cases x2
  · rw [x3] at e1; cases e1; cases e2) e
inductive PuF (g : Heap) (s : Shared) (L Cn H Aq : Addr) (v : Nat → Int) (n : Nat) (r : Result) (s' : Shared) : Prop
  | mk (h' : Heap) (tk' : Nat) (m' : Str → Option Value) (ws : List Value) (e0 : r = .ok .next) (e1 : s' = { s with heap := h', toks := tk' }) (F : Fx g L h' m' [Cn, H, Aq, 76, 90]) (lC : m' "counts" = some (.ref Cn)) (p : PlainL h' Cn ws.toArray) (I : Ints ws (nI (pus v n).2.2))
      (T : ClsTab h') (T2 : TabAt h' 90 K1 []) (up : ∀ b o, b ≠ 76 → b ≠ 90 → s.heap.get? b = some o → h'.get? b = some o)
inductive PuI (g G : Heap) (s : Shared) (L Cn H Aq It D : Addr) (ka : Nat → Addr) (v : Nat → Int) (n kk : Nat) (s' : Shared) : Prop
  | mk (h' : Heap) (tk' : Nat) (m' : Str → Option Value) (qs ws : List Value) (i : Nat) (e1 : s' = { s with heap := h', toks := tk' }) (ek : kk = n - i) (hi : i ≤ n) (F : Fx g L h' m' [Cn, H, Aq, 76, 90]) (lA : m' "asked" = some (.ref Aq)) (lH : m' "heap" = some (.ref H)) (lC : m' "counts" = some (.ref Cn))
      (R : Row1 ka v n Aq H h' i (pus v i).1 qs (pus v i).2.1) (p : PlainL h' Cn ws.toArray) (I : Ints ws (nI (pus v i).2.2)) (it : h'.IsListIter It D i) (pD : PlainL h' D (rowV ka n id).toArray)
      (kG : ∀ b o, G.get? b = some o → h'.get? b = some o) (T : ClsTab h') (T2 : TabAt h' 90 K1 []) (up : ∀ b o, b ≠ 76 → b ≠ 90 → s.heap.get? b = some o → h'.get? b = some o)
set_option maxHeartbeats 2000000 in
theorem pushes1 {w : World} {mg mb : Str → Option Value} {A : Around} {E Q : Value → Shared → Prop} {g : Heap} {s : Shared} {R : Addr} {vs : List Value} {ns : List Int}
    (hh : A.handled = none) (hd : A.depth + 24 < recursionLimit) (hu : A.units + 200 < cLine) (S : Sta2 mg mb g) (HS : Has g s.heap [76, 90]) (T : ClsTab s.heap) (T2 : TabAt s.heap 90 K1 []) (hR : PlainL s.heap R vs.toArray) (hI : Ints vs ns) (hn : ns.length < 60)
    (h : ∀ h' tk Cn ws, Has g h' [76, 90] → (∀ b o, b ≠ 76 → b ≠ 90 → s.heap.get? b = some o → h'.get? b = some o) → ClsTab h' → TabAt h' 90 K1 [] → s.heap.get? Cn = none →
      PlainL h' Cn ws.toArray → Ints ws (nI (pus (fun j => ns.getD j 0) ns.length).2.2) → Q (.ref Cn) { s with heap := h', toks := tk }) :
    wpAny (model prog w) A (call (.ref 112) [.ref R]) Q E s := by
  refine wpAny_call ?_
  obtain ⟨o, pm, cd, doc, eo, ed, ec⟩ := S.f_pushes
  have lm : ∀ a ∈ [(76 : Addr), 90], a < s.heap.objs.size := by
    intro a ha
    rcases List.mem_cons.mp ha with rfl | ha
    · exact let ⟨_, e, _⟩ := odd_cls T; Heap.lt_size e
    · obtain rfl := List.mem_singleton.mp ha
      exact T2.addr
  refine enter (by omega) HS lm eo ed S.lim ec (binds := [("numbers", .ref R)]) (by rfl) (locs rfl) ?_
  intro L h₁ tk F hk hL
  have gL : g.get? L = none := Heap.get?_none_of_le F.above
  have T₁ := T.cd fun b o _ e => hk b o e
  have T2₁ := T2.keeps hk
  have hR₁ : PlainL h₁ R vs.toArray := pl_keep hR (hk _)
  have e0 : ([] : List Value).toArray = #[] := rfl
  -- asked
  refine wpAny_execs_cons (wpAny_Assign_Name (List_ (args_nil (wpAny_newObj_type ?_ (by show (0 : Nat) ≤ sizeLine; decide)))))
  dsimp only
  have F₂ := F.grow { cls := .type "list", data := .seq #[] }
  have P₂ := newPlain (h := h₁) #[]
  have up₂ : ∀ b o, h₁.get? b = some o → (h₁.push { cls := .type "list", data := .seq #[] }).get? b = some o := fun b o e => Heap.get?_push_of_some _ e
  have fAq : h₁.get? h₁.objs.size = none := Heap.get?_none_of_le (Nat.le_refl _)
  generalize h₁.objs.size = Aq at F₂ P₂ fAq ⊢
  rw [e0]
  generalize h₁.push _ = h₂ at F₂ P₂ up₂ ⊢
  refine stx F₂ ?_
  intro h₃ F₃ hs₃
  dsimp only at F₃ hs₃ ⊢
  have nd₃ := ns_nd F₂.ns hs₃
  have T₃ := (T₁.cd fun b o _ e => up₂ b o e).cd fun b o q e => nd₃ b o (cd_ne q) e
  have T2₃ := (T2₁.keeps up₂).cd fun b o q e => nd₃ b o (cd_ne q) e
  have P₃ := pl_same P₂ hs₃ (F₂.apart Aq (by repeat (first | exact .head _ | refine .tail _ ?_)))
  have R₂ : PlainL h₂ R vs.toArray := pl_keep hR₁ (up₂ _)
  have R₃ := pl_same R₂ hs₃ (pl_ne_ns F₂.ns R₂)
  -- heap
  refine wpAny_execs_cons (wpAny_Assign_Name (List_ (args_nil (wpAny_newObj_type ?_ (by show (0 : Nat) ≤ sizeLine; decide)))))
  dsimp only
  have F₄ := F₃.grow { cls := .type "list", data := .seq #[] }
  have H₄ := newPlain (h := h₃) #[]
  have up₄ : ∀ b o, h₃.get? b = some o → (h₃.push { cls := .type "list", data := .seq #[] }).get? b = some o := fun b o e => Heap.get?_push_of_some _ e
  have fH : h₃.get? h₃.objs.size = none := Heap.get?_none_of_le (Nat.le_refl _)
  generalize h₃.objs.size = H at F₄ H₄ fH ⊢
  rw [e0]
  generalize h₃.push _ = h₄ at F₄ H₄ up₄ ⊢
  refine stx F₄ ?_
  intro h₅ F₅ hs₅
  dsimp only at F₅ hs₅ ⊢
  have nd₅ := ns_nd F₄.ns hs₅
  have T₅ := (T₃.cd fun b o _ e => up₄ b o e).cd fun b o q e => nd₅ b o (cd_ne q) e
  have T2₅ := (T2₃.keeps up₄).cd fun b o q e => nd₅ b o (cd_ne q) e
  have P₅ := pl_same (pl_keep P₃ (up₄ _)) hs₅ (F₄.apart Aq (by repeat (first | exact .head _ | refine .tail _ ?_)))
  have H₅ := pl_same H₄ hs₅ (F₄.apart H (by repeat (first | exact .head _ | refine .tail _ ?_)))
  have R₅ := pl_same (pl_keep R₃ (up₄ _)) hs₅ (pl_ne_ns F₄.ns (pl_keep R₃ (up₄ _)))
  -- counts
  refine wpAny_execs_cons (wpAny_Assign_Name (List_ (args_nil (wpAny_newObj_type ?_ (by show (0 : Nat) ≤ sizeLine; decide)))))
  dsimp only
  have F₆ := F₅.grow { cls := .type "list", data := .seq #[] }
  have N₆ := newPlain (h := h₅) #[]
  have up₆ : ∀ b o, h₅.get? b = some o → (h₅.push { cls := .type "list", data := .seq #[] }).get? b = some o := fun b o e => Heap.get?_push_of_some _ e
  have fN : h₅.get? h₅.objs.size = none := Heap.get?_none_of_le (Nat.le_refl _)
  generalize h₅.objs.size = Cn at F₆ N₆ fN ⊢
  rw [e0]
  generalize h₅.push _ = h₆ at F₆ N₆ up₆ ⊢
  refine stx F₆ ?_
  intro h₇ F₇ hs₇
  dsimp only at F₇ hs₇ ⊢
  have nd₇ := ns_nd F₆.ns hs₇
  have T₇ := (T₅.cd fun b o _ e => up₆ b o e).cd fun b o q e => nd₇ b o (cd_ne q) e
  have T2₇ := (T2₅.keeps up₆).cd fun b o q e => nd₇ b o (cd_ne q) e
  have P₇ := pl_same (pl_keep P₅ (up₆ _)) hs₇ (F₆.apart Aq (by repeat (first | exact .head _ | refine .tail _ ?_)))
  have H₇ := pl_same (pl_keep H₅ (up₆ _)) hs₇ (F₆.apart H (by repeat (first | exact .head _ | refine .tail _ ?_)))
  have N₇ := pl_same N₆ hs₇ (F₆.apart Cn (by repeat (first | exact .head _ | refine .tail _ ?_)))
  have R₇ := pl_same (pl_keep R₅ (up₆ _)) hs₇ (pl_ne_ns F₆.ns (pl_keep R₅ (up₆ _)))
  have HA : H ≠ Aq := fun z => by obtain ⟨_, _, x, _⟩ := P₃; rw [z, x] at fH; cases fH
  have NA : Cn ≠ Aq := fun z => by obtain ⟨_, _, x, _⟩ := P₅; rw [z, x] at fN; cases fN
  have NH : Cn ≠ H := fun z => by obtain ⟨_, _, x, _⟩ := H₅; rw [z, x] at fN; cases fN
  have up7 : ∀ b o, s.heap.get? b = some o → h₇.get? b = some o := fun b o e => by
    have lb := Nat.lt_of_lt_of_le (Heap.lt_size e) hL
    exact (hs₇.2 b (Nat.ne_of_lt lb)).trans (up₆ _ _ ((hs₅.2 b (Nat.ne_of_lt lb)).trans (up₄ _ _ ((hs₃.2 b (Nat.ne_of_lt lb)).trans (up₂ _ _ (hk b o e))))))
  have gsub : ∀ b o, g.get? b = some o → b ∉ (76 :: 90 :: Aq :: [L, H, Cn] : List Addr) := fun b o e =>
    nm_of e (fa1 (F₇.free _ (by repeat (first | exact .head _ | refine .tail _ ?_))) (fa1 (F₇.free _ (by repeat (first | exact .head _ | refine .tail _ ?_))) (fa1 (F₇.free _ (by repeat (first | exact .head _ | refine .tail _ ?_))) (fa1 gL (fa1 (F₇.free _ (by repeat (first | exact .head _ | refine .tail _ ?_))) (fa1 (F₇.free _ (by repeat (first | exact .head _ | refine .tail _ ?_))) fa0))))))
  clear T₁ T2₁ T₃ T2₃ T₅ T2₅ R₂ R₃ R₅
  obtain ⟨o', pm', doc', e', d', c'⟩ := S.f_keys
  refine wpAny_execs_cons (wpAny_For (Call_ (ld_global_at F₇.toFr S.G S.g_keys (callWith_def d' (args_cons (ld F₇.toFr rfl (args_cons (ld F₇.toFr rfl (args_nil ⟨F₇.keep _ _ e', ?_⟩)))))))))
  refine keys1 (g := hideAll h₇ (76 :: 90 :: Aq :: [L, H, Cn])) (by show A.handled = none; exact hh) (by rw [depth_deeper]; omega) (S.keeps fun b o e => hideAll_get _ (F₇.keep b o e) (gsub b o e)) (has_hide h₇ _) T₇ T2₇ R₇ hI P₇ hn ?_ ?_
  · exact List.forall_mem_cons.mpr ⟨⟨odd_ns F₇.ns (by rfl), Ne.symm (F₇.apart 76 (by repeat (first | exact .head _ | refine .tail _ ?_))), Ne.symm (F₇.apart 90 (by repeat (first | exact .head _ | refine .tail _ ?_)))⟩, List.forall_mem_cons.mpr ⟨⟨odd_list H₇, pl_ne_tab T₇ T2₇ H₇⟩, List.forall_mem_cons.mpr ⟨⟨odd_list N₇, pl_ne_tab T₇ T2₇ N₇⟩, fun _ h => nomatch h⟩⟩⟩
  intro k ka D G h₈ tk₈ hkA k8 T₈ T2₈ M hlow hG hGno hpl hD
  dsimp only at k8 hD ⊢
  have F₈ := F₇.many (sub := [76, 90]) (by repeat' (first | exact fa0 | exact .head _ | refine fa1 ?_ ?_ | refine .tail _ ?_)) (fun b o q e => k8 b o (fun z => q (by rw [z]; exact .head _)) (fun z => q (by rw [z]; exact .tail _ (.head _))) e)
  have P₈ : PlainL h₈ Aq #[] := pl_keep P₇ fun o e => k8 _ _ (pl_ne_tab T₇ T2₇ P₇).1 (pl_ne_tab T₇ T2₇ P₇).2 e
  have H₈ : PlainL h₈ H #[] := pl_keep H₇ fun o e => k8 _ _ (pl_ne_tab T₇ T2₇ H₇).1 (pl_ne_tab T₇ T2₇ H₇).2 e
  have N₈ : PlainL h₈ Cn #[] := pl_keep N₇ fun o e => k8 _ _ (pl_ne_tab T₇ T2₇ N₇).1 (pl_ne_tab T₇ T2₇ N₇).2 e
  have DA : D ≠ Aq := fun z => by obtain ⟨_, _, x, _⟩ := P₇; rw [z, x] at hD; cases hD
  have DH : D ≠ H := fun z => by obtain ⟨_, _, x, _⟩ := H₇; rw [z, x] at hD; cases hD
  have DN : D ≠ Cn := fun z => by obtain ⟨_, _, x, _⟩ := N₇; rw [z, x] at hD; cases hD
  refine wpAny_pyIter_list hpl.isList ?_
  dsimp only
  have e9 : (h₈.push { cls := .type "list_iterator", data := .fields #[.ref D, .int 0 0] }).get? h₈.objs.size = some { cls := .type "list_iterator", data := .fields #[.ref D, .int 0 0] } := Heap.get?_push_size _ rfl
  have up9 : ∀ b o, h₈.get? b = some o → (h₈.push { cls := .type "list_iterator", data := .fields #[.ref D, .int 0 0] }).get? b = some o := fun b o e => Heap.get?_push_of_some _ e
  have fI : h₈.get? h₈.objs.size = none := Heap.get?_none_of_le (Nat.le_refl _)
  have gI : g.get? h₈.objs.size = none := fresh_none F₈.has
  have F₉ := F₈.push { cls := .type "list_iterator", data := .fields #[.ref D, .int 0 0] }
  have IL : h₈.objs.size ≠ L := Nat.ne_of_gt F₈.ns.lt
  generalize h₈.objs.size = It at e9 fI gI IL ⊢
  generalize h₈.push _ = h₉ at e9 up9 F₉ ⊢
  have nI8 : ∀ {b : Addr} {o : Obj}, h₈.get? b = some o → b ≠ It := fun {b o} e z => by rw [z, fI] at e; cases e
  have AI : Aq ≠ It := let ⟨_, _, e, _⟩ := P₈; nI8 e
  have HI : H ≠ It := let ⟨_, _, e, _⟩ := H₈; nI8 e
  have NI : Cn ≠ It := let ⟨_, _, e, _⟩ := N₈; nI8 e
  have DI : D ≠ It := let ⟨_, _, e, _⟩ := hpl; nI8 e
  have GI : G.get? It = none := by
    cases q : G.get? It with
    | none => rfl
    | some o => rw [hG _ _ q] at fI; cases fI
  have Cx : Ctx1 w (KWd k ka (fun j => ns.getD j 0) ns.length) ka (fun j => ns.getD j 0) ns.length Aq H := ⟨kwd_mono, hkA ▸ ltSpec, HA⟩
  have up89 : ∀ b o, b ≠ 76 → b ≠ 90 → s.heap.get? b = some o → h₉.get? b = some o := fun b o q1 q2 e => up9 _ _ (k8 b o q1 q2 (up7 b o e))
  have olds : ∀ b o, s.heap.get? b = some o → b ≠ L ∧ b ≠ Aq ∧ b ≠ H ∧ b ≠ Cn ∧ b ≠ It := fun b o e => by
    have lb := Nat.lt_of_lt_of_le (Heap.lt_size e) hL
    have e1 := hk b o e
    have e3 := (hs₃.2 b (Nat.ne_of_lt lb)).trans (up₂ _ _ e1)
    have e5 := (hs₅.2 b (Nat.ne_of_lt lb)).trans (up₄ _ _ e3)
    refine ⟨Nat.ne_of_lt lb, fun z => ?_, fun z => ?_, fun z => ?_, fun z => ?_⟩
    · rw [z] at e1; rw [e1] at fAq; cases fAq
    · rw [z] at e3; rw [e3] at fH; cases fH
    · rw [z] at e5; rw [e5] at fN; cases fN
    · by_cases q1 : b = 76
      · obtain ⟨ps, y, _⟩ := T₈; rw [← z, q1, y] at fI; cases fI
      by_cases q2 : b = 90
      · obtain ⟨ps, y, _⟩ := T2₈; rw [← z, q2, y] at fI; cases fI
      rw [← z, k8 b o q1 q2 (up7 b o e)] at fI; cases fI
  refine codeAny_mono (R := PuF g s L Cn H Aq (fun j => ns.getD j 0) ns.length)
    (codeAny_forLoop (PuI g G s L Cn H Aq It D ka (fun j => ns.getD j 0) ns.length) ?turn ns.length ?init) ?fin
  case init =>
    exact ⟨h₉, _, _, [], [], 0, rfl, rfl, Nat.zero_le _, F₉, rfl, rfl, rfl, ⟨pl_keep H₈ (up9 _), pl_keep P₈ (up9 _), .nil, fun i hi => absurd hi (Nat.not_lt_zero _)⟩, pl_keep N₈ (up9 _), .nil, ⟨_, e9, rfl, rfl⟩, pl_keep hpl (up9 _),
      fun b o e => up9 _ _ (hG b o e), T₈.cd fun b o _ e => up9 b o e, T2₈.keeps up9, up89⟩
  case fin =>
    rintro r s' ⟨h', tk', m', ws, rfl, rfl, F', lC, pC, iC, T', T2', up'⟩
    dsimp only
    refine wpAny_execs_cons (wpAny_Return_some (ld F'.toFr lC ?_))
    refine h h' _ Cn ws (F'.has.less (by repeat' (first | exact fa0 | exact .head _ | refine fa1 ?_ ?_ | refine .tail _ ?_))) up' T' T2' ?_ pC iC
    cases q : s.heap.get? Cn with
    | none => rfl
    | some o => exact absurd rfl (olds _ _ q).2.2.2.1
  case turn =>
    intro kk s' hI
    refine hideQ fun Qa Ea hQa => ?_
    obtain ⟨h', tk', m', qs, ws, i, rfl, rfl, hi, F', lA, lH, lC, R', pC', iC', it', pD', G', T', T2', up'⟩ := hI
    by_cases hin : i < ns.length
    · refine wpAny_pyNext_list_item it' pD'.isList (x := .ref (ka i)) (rowV_get hin) fun h₁₀ it₁₀ hs₁₀ => hQa _ _ ?_
      have F₁₀ := F'.turn' gI IL hs₁₀.extBut
      obtain ⟨oI, eI, cI, _⟩ := id it'
      have R₁₀ := R'.turn' eI (by rw [cI]; decide) hs₁₀.extBut
      have pC₁₀ := pl_same pC' hs₁₀ NI
      have pD₁₀ := pl_same pD' hs₁₀ DI
      have cd₁₀ := it_keep it' hs₁₀
      dsimp only
      refine wpAny_assign_Name (stx F₁₀ ?_)
      intro h₁₁ F₁₁ hs₁₁
      dsimp only at F₁₁ hs₁₁ ⊢
      refine hideQ fun Qb Eb hQb => ?_
      have R₁₁ := R₁₀.store (F₁₀.less (by repeat' (first | exact fa0 | exact .head _ | refine fa1 ?_ ?_ | refine .tail _ ?_))) hs₁₁
      have pC₁₁ := pl_same pC₁₀ hs₁₁ (F₁₀.apart Cn (by repeat (first | exact .head _ | refine .tail _ ?_)))
      have pD₁₁ := pl_same pD₁₀ hs₁₁ (pl_ne_ns F₁₀.ns pD₁₀)
      have nd₁₁ := ns_nd F₁₀.ns hs₁₁
      have it₁₁ : h₁₁.IsListIter It D (i + 1) := it₁₀.extBut hs₁₁.extBut IL
      have hlen : qs.length = (pus (fun j => ns.getD j 0) i).2.1.length := R₁₁.len
      have hlog := pus_len (fun j => ns.getD j 0) i
      have hii : i * i ≤ 59 * 59 := Nat.mul_le_mul (by omega) (by omega)
      refine wpAny_execs_cons (wpAny_Assign_Name (Call_ (ld_builtin_at F₁₁.toFr S.G S.b_len.1 S.B S.b_len.2 (PyProof.Rows.callWith_builtin1 (args_cons (ld F₁₁.toFr (lkn lA) (args_nil (Calls.call_len_list R₁₁.ask.isList (by simp; omega) (stx F₁₁ ?_)))))))))
      intro h₁₂ F₁₂ hs₁₂
      dsimp only at F₁₂ hs₁₂ ⊢
      have R₁₂ := R₁₁.store (F₁₁.less (by repeat' (first | exact fa0 | exact .head _ | refine fa1 ?_ ?_ | refine .tail _ ?_))) hs₁₂
      have pC₁₂ := pl_same pC₁₁ hs₁₂ (F₁₁.apart Cn (by repeat (first | exact .head _ | refine .tail _ ?_)))
      have pD₁₂ := pl_same pD₁₁ hs₁₂ (pl_ne_ns F₁₁.ns pD₁₁)
      have nd₁₂ := ns_nd F₁₁.ns hs₁₂
      have it₁₂ : h₁₂.IsListIter It D (i + 1) := it₁₁.extBut hs₁₂.extBut IL
      have G₁₂ : ∀ b o, G.get? b = some o → h₁₂.get? b = some o := fun b o e => by
        have b1 : b ≠ It := fun z => by rw [z, GI] at e; cases e
        have b2 : b ≠ L := fun z => by rw [z, hGno L (by repeat (first | exact .head _ | refine .tail _ ?_))] at e; cases e
        exact (hs₁₂.2 b b2).trans ((hs₁₁.2 b b2).trans ((hs₁₀.2 b b1).trans (G' b o e)))
      have T₁₂ := T'.cd fun b o q e => nd₁₂ b o (cd_ne q) (nd₁₁ b o (cd_ne q) (cd₁₀ b o q e))
      have T2₁₂ := T2'.cd fun b o q e => nd₁₂ b o (cd_ne q) (nd₁₁ b o (cd_ne q) (cd₁₀ b o q e))
      have up₁₂ : ∀ b o, b ≠ 76 → b ≠ 90 → s.heap.get? b = some o → h₁₂.get? b = some o := fun b o q1 q2 e =>
        (hs₁₂.2 b (olds b o e).1).trans ((hs₁₁.2 b (olds b o e).1).trans ((hs₁₀.2 b (olds b o e).2.2.2.2).trans (up' b o q1 q2 e)))
      have Gg : ∀ b o, G.get? b = some o → (hideAll h₁₂ [H, Aq]).get? b = some o := fun b o e => hideAll_get _ (G₁₂ b o e) (nm_of e (fa1 (hGno _ (by repeat (first | exact .head _ | refine .tail _ ?_))) (fa1 (hGno _ (by repeat (first | exact .head _ | refine .tail _ ?_))) fa0)))
      obtain ⟨o', pm', cd', doc', e', d', c'⟩ := S.f_push
      refine wpAny_execs_cons (wpAny_If (wpAny_isTrue_Compare1 (Call_ (ld_global_at F₁₂.toFr S.G S.g_push (callWith_def d' (args_cons (ld F₁₂.toFr (lkn2 lH) (args_cons (ld F₁₂.toFr lkne (args_nil ⟨F₁₂.keep _ _ e', ?_⟩))))))))))
      refine heappush1 Cx (g := hideAll h₁₂ [H, Aq]) (by rw [depth_deeper]; omega) (by rw [units_deeper]; omega) (S.toSta.keeps (has_sub F₁₂.has (by repeat' (first | exact fa0 | exact .head _ | refine fa1 ?_ ?_ | refine .tail _ ?_)))) ⟨M.lim.keeps Gg, M.cl.keeps Gg, fun j hj => (M.keys j hj).keeps Gg⟩ (has_hide h₁₂ [H, Aq]) R₁₂ hin (by omega) (by omega) ?_
      intro h₁₃ tk₁₃ qs₁₃ H₁₃ R₁₃
      dsimp only
      have F₁₃ := F₁₂.back (sub := [H, Aq]) (by repeat' (first | exact fa0 | exact .head _ | refine fa1 ?_ ?_ | refine .tail _ ?_)) H₁₃
      have pC₁₃ := pl_back pC₁₂ H₁₃ (nm1 NH (nm1 NA nm0))
      have pD₁₃ := pl_back pD₁₂ H₁₃ (nm1 DH (nm1 DA nm0))
      have nl₁₃ : ∀ b o, (∀ vs n, o.data ≠ .seq vs n) → h₁₂.get? b = some o → h₁₃.get? b = some o := sub_keep (sub := [H, Aq]) (fa1 (P := fun a => ∃ its, PlainL h₁₂ a its) ⟨_, R₁₂.row⟩ (fa1 (P := fun a => ∃ its, PlainL h₁₂ a its) ⟨_, R₁₂.ask⟩ fa0)) H₁₃
      have it₁₃ : h₁₃.IsListIter It D (i + 1) := let ⟨o, e, c, d⟩ := it₁₂; ⟨o, nl₁₃ _ _ (by intro _ _ z; rw [d] at z; cases z) e, c, d⟩
      have R₁₃' : Row1 ka (fun j => ns.getD j 0) ns.length Aq H h₁₃ (i + 1) (pus (fun j => ns.getD j 0) (i + 1)).1 qs₁₃ (pus (fun j => ns.getD j 0) (i + 1)).2.1 := R₁₃
      have hlen' : qs₁₃.length = (pus (fun j => ns.getD j 0) (i + 1)).2.1.length := R₁₃'.len
      have hlog' := pus_len (fun j => ns.getD j 0) (i + 1)
      have hii' : (i + 1) * (i + 1) ≤ 59 * 59 := Nat.mul_le_mul (by omega) (by omega)
      have hge : (pus (fun j => ns.getD j 0) i).2.1.length ≤ (pus (fun j => ns.getD j 0) (i + 1)).2.1.length := sd_len_ge _ i 0 i _ i _
      refine wpAny_Constant_none (wpAny_isNot_self (by rfl) (wpAny_truthy_bool ?_))
      rw [if_neg (by decide)]
      refine wpAny_execs_nil ?_
      dsimp only
      refine wpAny_execs_cons (wpAny_Expr (wpAny_Call_append rfl rfl rfl rfl (ld F₁₃.toFr (lkn2 lC) ⟨Cn, _, rfl, pC₁₃, ?_⟩)))
      refine wpAny_BinOp (Call_ (ld_builtin_at F₁₃.toFr S.G S.b_len.1 S.B S.b_len.2 (PyProof.Rows.callWith_builtin1 (args_cons (ld F₁₃.toFr (lkn2 lA) (args_nil (Calls.call_len_list R₁₃'.ask.isList (by simp; omega) (ld F₁₃.toFr lke (sub_int ?_)))))))))
      have hwl : ws.length = i := by rw [iC'.length]; simp [nI, (pus_counts _ i).1]
      refine list_append_plainL pC₁₃ ?_ (by simp [sizeLine]; omega)
      intro h₁₄ pC₁₄ hs₁₄
      dsimp only at hs₁₄ ⊢
      rw [List.push_toArray] at pC₁₄
      have F₁₄ := F₁₃.turn (a := Cn) (by repeat (first | exact .head _ | refine .tail _ ?_)) hs₁₄
      have nl₁₄ := li_keep pC₁₃ hs₁₄
      refine wpAny_execs_nil (hQb _ _ ⟨ns.length - (i + 1), by omega, h₁₄, _, _, qs₁₃, ws ++ [_], i + 1, rfl, rfl, hin, F₁₄, lkn2 lA, lkn2 lH, lkn2 lC, ?_, pC₁₄, ?_, ?_, pl_same pD₁₃ hs₁₄ DN, ?_, ?_, ?_, ?_⟩)
      · exact ⟨pl_same R₁₃'.row hs₁₄ (Ne.symm NH), pl_same R₁₃'.ask hs₁₄ (Ne.symm NA), R₁₃'.prs.mono2 fun a i t j u la hl => isList_same hl hs₁₄ (Nat.ne_of_gt (Nat.lt_of_lt_of_le N₇.lt (Nat.le_trans (hlow 0 (by omega)) (Nat.le_of_lt la)))), R₁₃'.low⟩
      · have e1 : (pus (fun j => ns.getD j 0) (i + 1)).2.2 = (pus (fun j => ns.getD j 0) i).2.2 ++ [(pus (fun j => ns.getD j 0) (i + 1)).2.1.length - (pus (fun j => ns.getD j 0) i).2.1.length] := rfl
        rw [e1]
        unfold nI
        rw [List.map_append]
        have e2 : ((qs₁₃.toArray.size : Int) - (qs.toArray.size : Int)) = (((pus (fun j => ns.getD j 0) (i + 1)).2.1.length - (pus (fun j => ns.getD j 0) i).2.1.length : Nat) : Int) := by
          simp only [List.size_toArray]
          omega
        rw [← hlen, ← hlen'] at e2 ⊢
        rw [List.map_singleton, ← e2]
        exact Ints.snoc iC'
      · obtain ⟨o, e, c, d⟩ := it₁₃
        exact ⟨o, nl₁₄ _ _ (by intro _ _ z; rw [d] at z; cases z) e, c, d⟩
      · intro b o e
        have b1 : b ∉ [H, Aq] := nm_of e (fa1 (hGno _ (by repeat (first | exact .head _ | refine .tail _ ?_))) (fa1 (hGno _ (by repeat (first | exact .head _ | refine .tail _ ?_))) fa0))
        have b2 : b ≠ Cn := fun z => by rw [z, hGno _ (by repeat (first | exact .head _ | refine .tail _ ?_))] at e; cases e
        exact (hs₁₄.2 b b2).trans (H₁₃.keep _ _ (hideAll_get _ (G₁₂ b o e) b1))
      · exact T₁₂.cd fun b o q e => nl₁₄ b o (cd_nl q) (nl₁₃ b o (cd_nl q) e)
      · exact T2₁₂.cd fun b o q e => nl₁₄ b o (cd_nl q) (nl₁₃ b o (cd_nl q) e)
      · intro b o q1 q2 e
        have b1 : b ∉ [H, Aq] := nm1 (olds b o e).2.2.1 (nm1 (olds b o e).2.1 nm0)
        exact (hs₁₄.2 b (olds b o e).2.2.2.1).trans (H₁₃.keep _ _ (hideAll_get _ (up₁₂ b o q1 q2 e) b1))
    · obtain rfl : i = ns.length := Nat.le_antisymm hi (Nat.not_lt.mp hin)
      refine wpAny_pyNext_list_end (by show A.handled = none; exact hh) it' pD'.isList (by simp [rowV_len]) fun h₁₀ hx => hQa _ _ ?_
      dsimp only
      refine wpAny_execs_nil ⟨h₁₀, _, m', ws, rfl, rfl, F'.turn' gI IL hx, lC, ?_, iC', ?_, ?_, fun b o q1 q2 e => hx b o (olds b o e).2.2.2.2 (up' b o q1 q2 e)⟩
      · exact pl_keep pC' fun o e => hx _ _ NI e
      · exact T'.cd (itx_keep it' hx)
      · exact T2'.cd (itx_keep it' hx)
end Mine

end
section
open PySem PySem.W PySem.W.X PyProof.Rows Builtin
set_option linter.unusedVariables false
namespace Mine
set_option maxRecDepth 100000
theorem Ints.are {vs : List Value} {ns : List Int} (x : Ints vs ns) : IntsAre vs ns := by
  induction x with
  | nil => exact .nil
  | cons _ ih => exact .cons _ _ ih
theorem Ints.of_are {vs : List Value} {ns : List Int} (x : IntsAre vs ns) : Ints vs ns := by
  induction x with
  | nil => exact .nil
  | cons _ _ _ ih => exact .cons ih
theorem getD_get {ns : List Int} {i : Nat} (h : i < ns.length) : ns[i]? = some (ns.getD i 0) := by rw [List.getD_eq_getElem?_getD, List.getElem?_eq_getElem h]; rfl
section
variable {w : World} {A : Around} {E : Value → Shared → Prop} {s : Shared}
theorem index_ints {l : Addr} {vs : List Value} {ns : List Int} {i : Nat} {t : Tok} {Q : Value → Shared → Prop} (hl : PlainL s.heap l vs.toArray) (hi : Ints vs ns) (hin : i < ns.length) (inj : ∀ j, j < i → ns.getD j 0 ≠ ns.getD i 0) (hs : ns.length < 1000)
    (h : Q (.int i s.toks) { s with toks := s.toks + 1 }) : wpAny (model prog w) A (call (.builtin "list.index") [.ref l, .int (ns.getD i 0) t]) Q E s := by
  obtain ⟨⟨cls, dd, data, sl⟩, n, ho, hc, hdn, hd⟩ := hl
  simp only at hc hd
  subst hc hd
  have hlen := hi.length
  have iv : ∀ j (h1 : j < vs.length), isInt (ns.getD i 0) vs[j] = (ns.getD j 0 == ns.getD i 0) := fun j h1 => by
    obtain ⟨t', e⟩ := hi.val (List.getElem?_eq_getElem h1)
    rw [e]; rfl
  refine call_meets PySem.F.slot_list_index ⟨_, ho, rfl⟩ PySem.F.entry_list_index (PySem.F.args_list_index_2 _ _)
    (SeqAt.list_indexAt l vs.toArray n dd sl (.int (ns.getD i 0) t) (isInt (ns.getD i 0)) i (by simp; omega) (by omega) ?_ ?_) ⟨ho, fun y hy => (eq_isInt _ t hi.are y (by simpa using hy)).at _ _, h⟩
  · show isInt (ns.getD i 0) vs[i] = true
    rw [iv]; simp
  · intro j hjs hlt
    show isInt (ns.getD i 0) vs[j] = false
    rw [iv]
    exact beq_eq_false_iff_ne.mpr (inj j hlt)
/-- a list of two, taken apart -/
theorem unpack2 {t : Addr} {x y : Value} {Q : List Value → Shared → Prop} (hh : A.handled = none) (hl : s.heap.IsList t #[x, y])
    (hQ : ∀ h', Heap.ExtBut s.heap.objs.size s.heap h' → Q [x, y] { s with heap := h' }) : wpAny (model prog w) A (unpackItems (.ref t) 2 none) Q E s := by
  have hlt : t ≠ s.heap.objs.size := by obtain ⟨o, ho, _⟩ := hl; exact Nat.ne_of_lt (Heap.lt_size ho)
  have kp : ∀ b o, s.heap.get? b = some o → (s.heap.push { cls := .type "list_iterator", data := .fields #[.ref t, .int 0 0] }).get? b = some o := fun b o e => Heap.get?_push_of_some _ e
  have hit : (s.heap.push { cls := .type "list_iterator", data := .fields #[.ref t, .int 0 0] }).IsListIter s.heap.objs.size t 0 := ⟨_, Heap.get?_push_size _ rfl, rfl, rfl⟩
  unfold unpackItems notIterableAtAll
  refine wpAny_bind (wpAny_bind (wpAny_specialOf hl.typeIs slot_list_iter.lookup (wpAny_pure ?_)))
  simp only [Bool.false_eq_true, if_false]
  refine wpAny_bind (wpAny_holding (wpAny_pyIter_list hl ?_))
  have hl0 := isList_keep hl (kp _)
  generalize s.heap.push _ = h₁ at hit hl0 kp ⊢
  show wpAny _ _ (bind (holding _ (bind (pyNext _) _)) _) _ _ _
  refine wpAny_bind (wpAny_holding (wpAny_bind (wpAny_pyNext_list_item hit hl0 (x := x) rfl fun h₂ hit₂ hs₂ => ?_)))
  dsimp only
  have hl₂ := isList_same hl0 hs₂ hlt
  refine wpAny_bind (wpAny_holding ?_)
  show wpAny _ _ (bind (pyNext _) _) _ _ _
  refine wpAny_bind (wpAny_pyNext_list_item hit₂ hl₂ (x := y) rfl fun h₃ hit₃ hs₃ => ?_)
  dsimp only
  have hl₃ := isList_same hl₂ hs₃ hlt
  refine wpAny_bind (wpAny_holding (wpAny_pure (wpAny_pure (wpAny_pure ?_))))
  rw [if_neg (by simp)]
  refine wpAny_bind (wpAny_holding (wpAny_pyNext_list_end hh hit₃ hl₃ rfl fun h₄ he => ?_))
  dsimp only
  rw [if_neg (by decide)]
  exact wpAny_pure (hQ h₄ fun b o hb e => he b o hb ((hs₃.2 b hb).trans ((hs₂.2 b hb).trans (kp b o e))))
theorem assign2 {env : Env} {elts : List Expr} {x1} {pos : Pos} {t : Addr} {x y : Value} {Q : Unit → Shared → Prop} (hh : A.handled = none) (hl : s.heap.IsList t #[x, y])
    (hn : (assignEach elts env).length = 2) (hstar : (assignEach elts env).findIdx? (·.1) = none)
    (h : ∀ h', Heap.ExtBut s.heap.objs.size s.heap h' → wpAny (model prog w) A (assignInOrder ((assignEach elts env).map (·.2)) [x, y]) Q E { s with heap := h' }) :
    wpAny (model prog w) A (assign (.Tuple elts x1 pos) env (.ref t)) Q E s := by
  rw [arm_assign_Tuple]
  refine wpAny_bind (wpAny_standAt ?_)
  unfold unpack
  rw [hn, hstar]
  exact wpAny_bind (wpAny_holding (unpack2 hh hl h))
end
/-! the plain side of _law_held_below -/
theorem climb_step {upper k l : Nat} (h : upper < l) (hk : l ≤ k) : ∃ k', k = k' + 1 ∧ (l - 1) / 2 ≤ k' ∧ climb upper k l = climb upper k' ((l - 1) / 2) := by
  cases k with
  | zero => omega
  | succ k => exact ⟨k, rfl, by omega, by show (if upper < l then _ else _) = _; rw [if_pos h]⟩
theorem climb_stop {upper k l : Nat} (h : ¬ upper < l) : climb upper k l = l := by
  cases k with
  | zero => rfl
  | succ k => show (if upper < l then _ else _) = _; rw [if_neg h]
theorem heldOf_len (n : Nat) (log : Log) : (heldOf n log).length = n := by simp [heldOf]
theorem heldOf_get {n : Nat} {log : Log} {k : Nat} (h : k < n) : (heldOf n log).getD k 0 = (log.filter fun p => p.1 == k && climb p.1 p.2 p.2 == p.1).length := by
  unfold heldOf
  rw [List.getD_eq_getElem?_getD, List.getElem?_map, List.getElem?_range h]; rfl
theorem heldOf_yes {n : Nat} {log : Log} {p : Nat × Nat} (hp : p.1 < n) (h : climb p.1 p.2 p.2 = p.1) : heldOf n (log ++ [p]) = (heldOf n log).set p.1 ((heldOf n log).getD p.1 0 + 1) := by
  rw [heldOf_get hp]
  apply List.ext_getElem
  · simp [heldOf]
  · intro k h1 h2
    have hk : k < n := by simpa [heldOf] using h1
    rw [List.getElem_set]
    simp only [heldOf, List.getElem_map, List.getElem_range, List.filter_append, List.length_append]
    by_cases e : p.1 = k
    · subst e
      rw [if_pos rfl]
      simp [h]
    · rw [if_neg e]
      have : (p.1 == k) = false := beq_eq_false_iff_ne.mpr e
      simp [this]
theorem heldOf_no {n : Nat} {log : Log} {p : Nat × Nat} (h : climb p.1 p.2 p.2 ≠ p.1) : heldOf n (log ++ [p]) = heldOf n log := by
  unfold heldOf
  apply List.map_congr_left
  intro k _
  have : (climb p.1 p.2 p.2 == p.1) = false := beq_eq_false_iff_ne.mpr h
  simp [List.filter_append, this]
theorem Pairs.get {z : Addr} {h : Heap} {qs : List Value} {ps : List (Int × Int)} (x : Pairs z h qs ps) : ∀ {i : Nat} {p : Int × Int}, ps[i]? = some p → ∃ q, qs[i]? = some q ∧ PairAt z h q p := by
  induction x with
  | nil => intro i p e; simp at e
  | cons y _ ih =>
    intro i p e
    cases i with
    | zero => simp at e; subst e; exact ⟨_, rfl, y⟩
    | succ i => simp at e; obtain ⟨q, a, b⟩ := ih e; exact ⟨q, by simpa using a, b⟩
end Mine

end
section
open PySem PySem.W PySem.W.X PyProof.Rows Builtin
set_option linter.unusedVariables false
namespace Mine
set_option maxRecDepth 100000
theorem fl_reps (n : Nat) (v : Value) : List.foldl (fun x1 x2 => x1 ++ x2) #[] (List.replicate n #[v]) = (List.replicate n v).toArray := by
  have key : ∀ n (acc : Array Value), List.foldl (fun x1 x2 => x1 ++ x2) acc (List.replicate n #[v]) = acc ++ (List.replicate n v).toArray := by
    intro n
    induction n with
    | zero => intro acc; simp
    | succ n ih => intro acc; rw [List.replicate_succ, List.foldl_cons, ih, List.replicate_succ, Array.append_assoc]; congr 1; apply Array.ext'; simp
  rw [key]; simp
theorem ints_zero (t : Tok) : ∀ n, Ints (List.replicate n (.int 0 t)) (List.replicate n 0)
  | 0 => .nil
  | n + 1 => .cons (ints_zero t n)
theorem Ints.set {vs : List Value} {ns : List Int} (x : Ints vs ns) {m : Int} {t : Tok} : ∀ i, Ints (vs.set i (.int m t)) (ns.set i m) := by
  induction x with
  | nil => intro i; exact .nil
  | cons _ ih => intro i; cases i with
    | zero => rename_i h; exact .cons h
    | succ i => exact .cons (ih i)
theorem Fx.abs {g h : Heap} {L : Addr} {m : Str → Option Value} {muts : List Addr} (F : Fx g L h m muts) (P : (Str → Option Value) → Prop) (hp : P m) : ∃ m, Fx g L h m muts ∧ P m := ⟨m, F, hp⟩
section
variable {w : World} {A : Around} {E : Value → Shared → Prop} {s : Shared}
/-- x.index(y) -/
theorem index_call {env : Env} {e : Expr} {p1 pos : Pos} {x : Str} {p2 : Pos} {l : Addr} {vs : List Value} {ns : List Int} {i : Nat} {t : Tok} {Q : Value → Shared → Prop} (hl : PlainL s.heap l vs.toArray) (hi : Ints vs ns) (hin : i < ns.length) (inj : ∀ j, j < i → ns.getD j 0 ≠ ns.getD i 0) (hsz : ns.length < 1000)
    (hx : ∀ Q' : Value → Shared → Prop, Q' (.ref l) s → wpAny (model prog w) A (eval (.Name x p2) env) Q' E s) (he : ∀ Q' : Value → Shared → Prop, Q' (.int (ns.getD i 0) t) s → wpAny (model prog w) A (eval e env) Q' E s)
    (h : Q (.int i s.toks) { s with toks := s.toks + 1 })
    (hbase : attributeBase (.Name x p2) "index" env (eval (.Name x p2) env) = eval (.Name x p2) env) (hs : starEach [e] env = [(false, eval e env)]) (hline : (p1.endLine == pos.line) = true) :
    wpAny (model prog w) A (eval (.Call (.Attribute (.Name x p2) "index" p1) [e] [] pos) env) Q E s := by
  refine Call_method1 hbase hs hline (hx _ ⟨"list", "list.index", PySem.F.plainAttrs_list, PySem.F.slot_list_index, PySem.F.type_list_index, hl.isList.typeIs, fun a q => ?_, Calls.callWith_builtin rfl (Calls.evalArgs_plain (Calls.spliced_cons (he _ (Calls.spliced_nil ?_))))⟩)
  · cases q
    obtain ⟨o, n, e, _, d, _⟩ := hl
    exact ⟨o, e, d⟩
  · exact index_ints hl hi hin inj hsz h
end
theorem Fx.abs4 {g h : Heap} {L : Addr} {m : Str → Option Value} {muts : List Addr} (F : Fx g L h m muts) (a b c d : Str) {x y z u : Option Value} (e1 : m a = x) (e2 : m b = y) (e3 : m c = z) (e4 : m d = u) {X : Prop}
    (k : ∀ m, Fx g L h m muts → m a = x → m b = y → m c = z → m d = u → X) : X := k m F e1 e2 e3 e4
inductive HdF (s : Shared) (L Hd n : Nat) (log : Log) (r : Result) (s' : Shared) : Prop
  | mk (h' : Heap) (tk' : Nat) (m' : Str → Option Value) (ws : List Value) (e0 : r = .ok .next) (e1 : s' = { s with heap := h', toks := tk' }) (F : Fx s.heap L h' m' [Hd]) (lH : m' "held" = some (.ref Hd)) (p : PlainL h' Hd ws.toArray) (i : Ints ws (nI (heldOf n log)))
inductive HdI (s : Shared) (L Hd R It D n : Nat) (log : Log) (k : Nat) (s' : Shared) : Prop
  | mk (h' : Heap) (tk' : Nat) (m' : Str → Option Value) (ws : List Value) (i : Nat) (e1 : s' = { s with heap := h', toks := tk' }) (ek : k = log.length - i) (hi : i ≤ log.length) (F : Fx s.heap L h' m' [Hd]) (lH : m' "held" = some (.ref Hd)) (lR : m' "rising" = some (.ref R))
      (p : PlainL h' Hd ws.toArray) (j : Ints ws (nI (heldOf n (log.take i)))) (it : h'.IsListIter It D i)
inductive HwI (s : Shared) (L Hd R It D i a b : Nat) (ws : List Value) (tu : Tok) (l : Nat) (s' : Shared) : Prop
  | mk (h' : Heap) (tk' : Nat) (m' : Str → Option Value) (k : Nat) (t : Tok) (e1 : s' = { s with heap := h', toks := tk' }) (lk : l ≤ k) (hc : climb a k l = climb a b b) (F : Fx s.heap L h' m' [Hd]) (lR : m' "rising" = some (.ref R)) (lH : m' "held" = some (.ref Hd)) (lU : m' "upper" = some (.int a tu))
      (lL : m' "lower" = some (.int l t)) (p : PlainL h' Hd ws.toArray) (it : h'.IsListIter It D i)
inductive HwF (s : Shared) (L Hd R It D i a b : Nat) (ws : List Value) (tu : Tok) (r : Result) (s' : Shared) : Prop
  | mk (h' : Heap) (tk' : Nat) (m' : Str → Option Value) (t : Tok) (e0 : r = .ok .next) (e1 : s' = { s with heap := h', toks := tk' }) (F : Fx s.heap L h' m' [Hd]) (lR : m' "rising" = some (.ref R)) (lH : m' "held" = some (.ref Hd)) (lU : m' "upper" = some (.int a tu))
      (lL : m' "lower" = some (.int (climb a b b : Nat) t)) (p : PlainL h' Hd ws.toArray) (it : h'.IsListIter It D i)
set_option maxHeartbeats 2000000 in
theorem held1 {w : World} {mg mb : Str → Option Value} {A : Around} {E Q : Value → Shared → Prop} {g : Heap} {s : Shared} {R D zz : Addr} {vs qs : List Value} {ns : List Int} {log : Log} {n : Nat}
    (hh : A.handled = none) (hd : A.depth + 8 < recursionLimit) (S : Sta mg mb g) (HS : Has g s.heap []) (hR : PlainL s.heap R vs.toArray) (hI : Ints vs ns) (hln : ns.length = n) (hn : n < 60) (inj : ∀ i j, i < n → j < n → ns.getD i 0 = ns.getD j 0 → i = j)
    (hD : PlainL s.heap D qs.toArray) (hP : Pairs zz s.heap qs (intLog (fun j => ns.getD j 0) log)) (hlog : ∀ p ∈ log, p.1 < n ∧ p.2 < n) (hlen : log.length < 10000)
    (h : ∀ Hd h' tk ws, Has g h' [] → (∀ b o, s.heap.get? b = some o → h'.get? b = some o) → s.heap.get? Hd = none → PlainL h' Hd ws.toArray → Ints ws (nI (heldOf n log)) → Q (.ref Hd) { s with heap := h', toks := tk }) :
    wpAny (model prog w) A (call (.ref 105) [.ref R, .ref D]) Q E s := by
  refine wpAny_call ?_
  have S := S.keeps HS.keep
  obtain ⟨o, pm, cd, doc, eo, ed, ec⟩ := S.f_held
  refine enter (g := s.heap) (muts := []) (by omega) ⟨fun _ _ e => e, Nat.le_refl _, by simp⟩ (by simp) eo ed S.lim ec (binds := [("rising", .ref R), ("asked", .ref D)]) (by rfl) (locs rfl) ?_
  intro L h₁ tk F hk hL
  have hR₁ := pl_keep hR (hk _)
  have hvl : vs.length = n := by rw [hI.length, hln]
  refine wpAny_execs_cons (wpAny_Assign_Name (wpAny_BinOp (List_ (args_cons (wpAny_Constant_int (args_nil (wpAny_newObj_type ?_ (by show (1 : Nat) ≤ sizeLine; decide))))))))
  dsimp only
  have F₂ := F.push { cls := .type "list", data := .seq [Value.int 0 tk].toArray }
  have e₂ : (h₁.push { cls := .type "list", data := .seq [Value.int 0 tk].toArray }).get? h₁.objs.size = some { cls := .type "list", data := .seq [Value.int 0 tk].toArray } := Heap.get?_push_size _ rfl
  have up₂ : ∀ b o, h₁.get? b = some o → (h₁.push { cls := .type "list", data := .seq [Value.int 0 tk].toArray }).get? b = some o := fun b o e => Heap.get?_push_of_some _ e
  generalize h₁.objs.size = l0 at e₂ ⊢
  generalize h₁.push _ = h₂ at F₂ e₂ up₂ ⊢
  refine Call_ (ld_builtin_at F₂.toFr S.G S.b_len.1 S.B S.b_len.2 (PyProof.Rows.callWith_builtin1 (args_cons (ld F₂.toFr rfl (args_nil (Calls.call_len_list (pl_keep hR₁ (up₂ _)).isList (by simp [hvl]; omega) ?_))))))
  refine mul_list F₂.toFr News.nil e₂ (by omega) (by simp [hvl]; omega) (by simp [hvl]; omega) ?_
  intro h₃ Fr₃ N₃
  dsimp only at N₃ ⊢
  have eH := (N₃ _ (.head _)).1
  have nHL := (N₃ _ (.head _)).2.1
  have fH := (N₃ _ (.head _)).2.2
  generalize h₂.objs.size = Hd at eH nHL fH ⊢
  clear N₃
  have e1 : (if #[Value.int 0 tk].isEmpty = true then 0 else ((vs.toArray.size : Nat) : Int).toNat) = n := by
    rw [if_neg (by simp)]; simp [hvl]
  dsimp only at eH
  have e2 : (List.foldl (fun x1 x2 => x1 ++ x2) #[] (List.replicate (if #[Value.int 0 tk].isEmpty = true then 0 else ((vs.toArray.size : Nat) : Int).toNat) #[Value.int 0 tk])) = (List.replicate n (Value.int 0 tk)).toArray := by rw [e1, fl_reps]
  have P₃ : PlainL h₃ Hd (List.replicate n (Value.int 0 tk)).toArray := ⟨_, 0, eH, rfl, rfl, by show Data.seq _ = _; rw [← e2]⟩
  clear eH e1 e2
  have F₃ : Fx s.heap L h₃ _ [Hd] := ⟨Fr₃, fun a ha => by rw [List.mem_singleton.mp ha]; exact fH, fun a ha => by rw [List.mem_singleton.mp ha]; exact nHL⟩
  refine stx F₃ ?_
  intro h₄ F₄ hs₄
  dsimp only at F₄ hs₄ ⊢
  have P₄ := pl_same P₃ hs₄ nHL
  clear P₃ F₃ Fr₃
  have hD₄ := pl_keep hD (F₄.keep _)
  refine wpAny_execs_cons (wpAny_For (ld F₄.toFr rfl (wpAny_pyIter_list hD₄.isList ?_)))
  dsimp only
  have e5 : (h₄.push { cls := .type "list_iterator", data := .fields #[.ref D, .int 0 0] }).get? h₄.objs.size = some { cls := .type "list_iterator", data := .fields #[.ref D, .int 0 0] } := Heap.get?_push_size _ rfl
  have gI : s.heap.get? h₄.objs.size = none := fresh_none F₄.has
  have F₅ := F₄.push { cls := .type "list_iterator", data := .fields #[.ref D, .int 0 0] }
  have P₅ : PlainL (h₄.push { cls := .type "list_iterator", data := .fields #[.ref D, .int 0 0] }) Hd _ := pl_keep P₄ fun o e => Heap.get?_push_of_some _ e
  have IL : h₄.objs.size ≠ L := Nat.ne_of_gt F₄.ns.lt
  have IH : h₄.objs.size ≠ Hd := Nat.ne_of_gt P₄.lt
  generalize h₄.objs.size = It at e5 gI IL IH ⊢
  generalize h₄.push _ = h₅ at e5 F₅ P₅ ⊢
  have DI : D ≠ It := fun z => by obtain ⟨_, _, x, _⟩ := hD; rw [z, gI] at x; cases x
  have DH : D ≠ Hd := fun z => by obtain ⟨_, _, x, _⟩ := hD; rw [z, fH] at x; cases x
  have hql : qs.length = log.length := by have := hP.length; simpa [intLog] using this
  refine codeAny_mono (R := HdF s L Hd n log)
    (codeAny_forLoop_any (HdI s L Hd R It D n log) ?turn log.length ?init) ?fin
  case init =>
    refine ⟨h₅, _, _, _, 0, rfl, rfl, Nat.zero_le _, F₅, rfl, rfl, P₅, ?_, ⟨_, e5, rfl, rfl⟩⟩
    have : nI (heldOf n (log.take 0)) = List.replicate n 0 := by
      apply List.ext_getElem
      · simp [nI, heldOf]
      · intro i h1 h2; simp [nI, heldOf]
    rw [this]
    exact ints_zero _ _
  case fin =>
    rintro r s' ⟨h', tk', m', ws, rfl, rfl, F', lH, pH, iH⟩
    dsimp only
    refine wpAny_execs_cons (wpAny_Return_some (ld F'.toFr lH ?_))
    exact h Hd h' _ ws ⟨fun b o e => F'.keep b o (HS.keep b o e), Nat.le_trans HS.size F'.has.size, by simp⟩ F'.keep fH pH iH
  case turn =>
    intro k s' hI9
    refine hideQ fun Qa Ea hQa => ?_
    obtain ⟨h', tk', m', ws, i, rfl, rfl, hi, F', lH, lR, pH, iH, it'⟩ := hI9
    by_cases hin : i < log.length
    · have hDl := pl_keep hD (F'.keep _)
      obtain ⟨p, hp⟩ : ∃ p, log[i]? = some p := ⟨_, List.getElem?_eq_getElem hin⟩
      obtain ⟨q, hq, a, t, u, rfl, hal, _⟩ := hP.get (i := i) (p := (ns.getD p.1 0, ns.getD p.2 0)) (by simp [intLog, hp])
      obtain ⟨hp1, hp2⟩ := hlog p (List.mem_of_getElem? hp)
      refine wpAny_pyNext_list_item it' hDl.isList (x := .ref a) (by simpa using hq) fun h₆ it₆ hs₆ => hQa _ _ ?_
      have F₆ := F'.turn' gI IL hs₆.extBut
      have pH₆ := pl_same pH hs₆ (Ne.symm IH)
      dsimp only
      refine wpAny_letOwnedTupleGo_listiter it₆ ?_
      refine assign2 (by show A.handled = none; exact hh) (isList_keep hal (F₆.keep _)) (by rfl) (by rfl) fun h₇ x7 => ?_
      have k7 : ∀ b o, h₆.get? b = some o → h₇.get? b = some o := fun b o e => x7 b o (Nat.ne_of_lt (Heap.lt_size e)) e
      have F₇ : Fx s.heap L h₇ _ [Hd] := ⟨F₆.toFr.keeps k7, F₆.free, F₆.apart⟩
      have pH₇ := pl_keep pH₆ (k7 _)
      have it₇ : h₇.IsListIter It D (i + 1) := it₆.at fun o e => k7 _ _ e
      dsimp only
      refine wpAny_bind (wpAny_holding (wpAny_assign_Name (stx F₇ ?_)))
      intro h₈ F₈ hs₈
      dsimp only at F₈ hs₈ ⊢
      have pH₈ := pl_same pH₇ hs₈ nHL
      have it₈ : h₈.IsListIter It D (i + 1) := it₇.extBut hs₈.extBut IL
      refine wpAny_bind (wpAny_holding (wpAny_assign_Name (stx F₈ ?_)))
      intro h₉ F₉ hs₉
      dsimp only at F₉ hs₉ ⊢
      have pH₉ := pl_same pH₈ hs₉ nHL
      have it₉ : h₉.IsListIter It D (i + 1) := it₈.extBut hs₉.extBut IL
      refine wpAny_pure ?_
      refine hideQ fun Qb Eb hQb => ?_
      refine Fx.abs4 F₉ "rising" "held" "one" "other" (lkn2 lR) (lkn2 lH) lkne lke fun m₉ F₉ l1 l2 l3 l4 => ?_
      have injA : ∀ {i}, i < n → ∀ j, j < i → ns.getD j 0 ≠ ns.getD i 0 := fun {i} hi j hj e => absurd (inj j i (by omega) hi e) (by omega)
      refine wpAny_execs_cons (wpAny_Assign_Name (index_call (pl_keep hR (F₉.keep _)) hI (by omega) (injA hp1) (by omega) (fun Q' q => ld F₉.toFr l1 q) (fun Q' q => ld F₉.toFr l3 q) (stx F₉ ?_) rfl rfl rfl))
      intro h₁₀ F₁₀ hs₁₀
      dsimp only at F₁₀ hs₁₀ ⊢
      have pH₁₀ := pl_same pH₉ hs₁₀ nHL
      have it₁₀ : h₁₀.IsListIter It D (i + 1) := it₉.extBut hs₁₀.extBut IL
      refine Fx.abs4 F₁₀ "rising" "held" "other" "upper" (lkn l1) (lkn l2) (lkn l4) lke fun m₁₀ F₁₀ l1 l2 l4 l5 => ?_
      refine wpAny_execs_cons (wpAny_Assign_Name (index_call (pl_keep hR (F₁₀.keep _)) hI (by omega) (injA hp2) (by omega) (fun Q' q => ld F₁₀.toFr l1 q) (fun Q' q => ld F₁₀.toFr l4 q) (stx F₁₀ ?_) rfl rfl rfl))
      intro h₁₁ F₁₁ hs₁₁
      dsimp only at F₁₁ hs₁₁ ⊢
      have pH₁₁ := pl_same pH₁₀ hs₁₁ nHL
      have it₁₁ : h₁₁.IsListIter It D (i + 1) := it₁₀.extBut hs₁₁.extBut IL
      refine Fx.abs4 F₁₁ "rising" "held" "upper" "lower" (lkn l1) (lkn l2) (lkn l5) lke fun m₁₁ F₁₁ l1 l2 l5 l6 => ?_
      refine wpAny_execs_cons (wpAny_While (codeAny_mono (R := HwF s L Hd R It D (i + 1) p.1 p.2 ws (tk' + 1 + 1))
        (codeAny_whileLoop (HwI s L Hd R It D (i + 1) p.1 p.2 ws (tk' + 1 + 1))
          ?turn2 p.2 ?init2) ?fin2))
      case init2 => exact ⟨h₁₁, _, m₁₁, p.2, _, rfl, Nat.le_refl _, rfl, F₁₁, l1, l2, l5, l6, pH₁₁, it₁₁⟩
      case turn2 =>
        rintro l s' ⟨h', tk', m', k, tl, rfl, hlk, hcl, F', l1, l2, l5, l6, pH', it'⟩
        refine wpAny_isTrue_Compare1 (ld F'.toFr l6 (ld F'.toFr l5 (SiftDown.gt_int (wpAny_truthy_bool ?_))))
        by_cases hgt : p.1 < l
        · rw [decide_eq_true (Int.ofNat_lt.mpr hgt), if_pos rfl]
          refine hideQ fun Qc Ec hQc => ?_
          obtain ⟨k', rfl, hk', hc'⟩ := climb_step hgt hlk
          refine wpAny_execs_cons (wpAny_Assign_Name (wpAny_BinOp (wpAny_BinOp (ld F'.toFr l6 (wpAny_Constant_int (sub_int (wpAny_Constant_int (floordiv_int (by decide) (stx F' ?_)))))))))
          intro h₁₂ F₁₂ hs₁₂
          have ed : ((l : Int) - 1).fdiv 2 = (((l - 1) / 2 : Nat) : Int) := by rw [Int.fdiv_eq_ediv_of_nonneg _ (by decide)]; omega
          rw [ed] at F₁₂
          dsimp only at F₁₂ hs₁₂ ⊢
          exact wpAny_execs_nil (hQc _ _ ⟨(l - 1) / 2, by omega, h₁₂, _, _, k', _, rfl, hk', hc' ▸ hcl, F₁₂, lkn l1, lkn l2, lkn l5, lke, pl_same pH' hs₁₂ nHL, it'.extBut hs₁₂.extBut IL⟩)
        · rw [decide_eq_false (fun q => hgt (Int.ofNat_lt.mp q)), if_neg (by decide)]
          rw [climb_stop hgt] at hcl
          exact wpAny_execs_nil ⟨h', _, m', tl, rfl, rfl, F', l1, l2, l5, hcl ▸ l6, pH', it'⟩
      case fin2 =>
        rintro r s' ⟨h₁₂, tk₁₂, m₁₂, tl, rfl, rfl, F₁₂, l1, l2, l5, l6, pH₁₂, it₁₂⟩
        dsimp only
        have hwl : ws.length = n := by rw [iH.length]; simp [nI, heldOf_len]
        have htk : log.take (i + 1) = log.take i ++ [p] := by rw [List.take_add_one, hp]; rfl
        refine wpAny_execs_cons (wpAny_If (wpAny_isTrue_Compare1 (ld F₁₂.toFr l6 (ld F₁₂.toFr l5 (eq_int (wpAny_truthy_bool ?_))))))
        by_cases hc : climb p.1 p.2 p.2 = p.1
        · rw [if_pos (by simp [hc])]
          have hg : (nI (heldOf n (log.take i)))[p.1]? = some (((heldOf n (log.take i)).getD p.1 0 : Nat) : Int) := by
            unfold nI
            rw [List.getElem?_map, List.getD_eq_getElem?_getD, List.getElem?_eq_getElem (by rw [heldOf_len]; exact hp1)]; rfl
          obtain ⟨tw, hw⟩ := iH.get hg
          refine wpAny_execs_cons (wpAny_AugAssign_SubscriptAny (ld F₁₂.toFr l2 (ld F₁₂.toFr l5 (wpAny_getItem_list pH₁₂.isList (by omega) (by omega) (x := .int ((heldOf n (log.take i)).getD p.1 0 : Nat) tw) (by rw [Int.toNat_natCast]; simpa using hw) (wpAny_Constant_int (iadd_int (setItem_plain pH₁₂ (by omega) (by omega) (by simp [hwl]; omega) ?_)))))))
          intro h₁₃ pH₁₃ hs₁₃
          dsimp only at hs₁₃ ⊢
          rw [Int.toNat_natCast, List.setIfInBounds_toArray] at pH₁₃
          refine wpAny_execs_nil ?_
          dsimp only
          refine wpAny_execs_nil (hQb _ _ ⟨log.length - (i + 1), by omega, h₁₃, _, m₁₂, _, i + 1, rfl, rfl, hin, F₁₂.turn (a := Hd) (by repeat (first | exact .head _ | refine .tail _ ?_)) hs₁₃, l2, l1, pH₁₃, ?_, it₁₂.extBut hs₁₃.extBut IH⟩)
          rw [htk, heldOf_yes hp1 hc]
          unfold nI
          rw [List.map_set]
          exact Ints.set iH _
        · rw [if_neg (by simp; omega)]
          refine wpAny_execs_nil (wpAny_execs_nil (hQb _ _ ⟨log.length - (i + 1), by omega, h₁₂, _, m₁₂, ws, i + 1, rfl, rfl, hin, F₁₂, l2, l1, pH₁₂, ?_, it₁₂⟩))
          rw [htk, heldOf_no hc]; exact iH
    · obtain rfl : i = log.length := Nat.le_antisymm hi (Nat.not_lt.mp hin)
      refine wpAny_pyNext_list_end (by show A.handled = none; exact hh) it' (pl_keep hD (F'.keep _)).isList (by simp [hql]) fun h₆ hx => hQa _ _ ?_
      dsimp only
      refine wpAny_execs_nil ⟨h₆, _, m', ws, rfl, rfl, F'.turn' gI IL hx, lH, pl_keep pH fun o e => hx _ _ (Ne.symm IH) e, ?_⟩
      rw [List.take_length] at iH; exact iH
end Mine

end
section
open PySem PySem.W PySem.W.X PyProof.Rows Builtin
set_option linter.unusedVariables false
namespace Mine
set_option maxRecDepth 100000
noncomputable def Grew (s s' : Shared) : Prop := ∃ h tk, s' = { s with heap := h, toks := tk } ∧ ∀ b o, s.heap.get? b = some o → h.get? b = some o
theorem Grew.refl (s : Shared) : Grew s s := ⟨_, _, rfl, fun _ _ e => e⟩
/-- what a comprehension goes over -/
noncomputable def Src (w : World) (A : Around) (s : Shared) (n : Nat) (P : Nat → Value → Prop) (it : Value) (s₂ : Shared) : Prop :=
  ∃ I fp wr St, it = .ref I ∧ Walks prog w A I fp wr n P St ∧ St 0 s₂.heap ∧ (∀ b ∈ fp, b < s₂.heap.objs.size) ∧ (∀ b ∈ wr, s.heap.get? b = none ∧ b < s₂.heap.objs.size) ∧ Grew s s₂
noncomputable def TurnI (w : World) (A : Around) (env : Env) (scope : Scope) (cl : List (Str × Addr)) (x : Str) (ifs : List Expr) (elt : Expr) (s : Shared) (n : Nat) (P : Nat → Value → Prop) (spec : Nat → List Int) : Prop :=
  ∀ C i v (s₃ : Shared) m₃ (E' : Value → Shared → Prop), P i v → i < n → (∀ b o, s.heap.get? b = some o → s₃.heap.get? b = some o) → s₃.heap.Ns C m₃ → m₃ x = some v →
    wpAny (model prog w) A (forIn ifs true fun c r => if r = true then do let ok ← isTrue c (compEnvC scope cl C env) (eval c (compEnvC scope cl C env)); pure (ForInStep.yield ok) else pure (ForInStep.yield r))
      (fun ok s₄ => Grew s₃ s₄ ∧ if ok = true then wpAny (model prog w) A (eval elt (compEnvC scope cl C env)) (fun y s₅ => Grew s₃ s₅ ∧ ∃ z t, y = .int z t ∧ spec (i + 1) = spec i ++ [z]) E' s₄ else spec (i + 1) = spec i) E' s₃
end Mine

end
section
open PySem PySem.W PySem.W.X PyProof.Rows Builtin
set_option linter.unusedVariables false
namespace Mine
set_option maxRecDepth 100000
theorem Grew.trans {s s' s'' : Shared} (x : Grew s s') (y : Grew s' s'') : Grew s s'' := by
  obtain ⟨h, tk, rfl, k⟩ := x
  obtain ⟨h', tk', rfl, k'⟩ := y
  exact ⟨h', tk', rfl, fun b o e => k' b o (k b o e)⟩
theorem Grew.keep {s s' : Shared} (x : Grew s s') : ∀ b o, s.heap.get? b = some o → s'.heap.get? b = some o := by
  obtain ⟨h, tk, rfl, k⟩ := x; exact k
section
variable {w : World} {A : Around} {E : Value → Shared → Prop} {s : Shared} {env : Env}
theorem turn_of {scope : Scope} {cl : List (Str × Addr)} {x : Str} {ifs : List Expr} {elt : Expr} {n : Nat} {P : Nat → Value → Prop} {spec : Nat → List Int} {wr : List Addr} {z : Nat} (T : TurnI w A env scope cl x ifs elt s n P spec) :
    CompTurn w A env scope cl x ifs elt wr n P z (fun i ys G => (∀ b o, s.heap.get? b = some o → G.get? b = some o) ∧ Ints ys (spec i)) := by
  intro C D i v ys G s₃ m₃ E' lC lD hP hi hF hG hno hlt hns hm
  refine wpAny_mono (T C i v s₃ m₃ E' hP hi (fun b o e => hG b o (hF.1 b o e)) hns hm) (fun ok s₄ h => ?_) fun _ _ e => e
  obtain ⟨⟨h₄, tk₄, rfl, k4⟩, h⟩ := h
  refine ⟨⟨h₄, tk₄, rfl, k4⟩, ?_⟩
  cases ok with
  | true =>
    rw [if_pos rfl] at h ⊢
    refine wpAny_mono h (fun y s₅ h => ?_) fun _ _ e => e
    obtain ⟨⟨h₅, tk₅, rfl, k5⟩, z, t, rfl, e⟩ := h
    exact ⟨h₅, tk₅, rfl, k5, fun b o e => hide_up hG hno k5 b o (hF.1 b o e), by rw [e]; exact hF.2.snoc⟩
  | false =>
    rw [if_neg (by decide)] at h ⊢
    exact ⟨fun b o e => hide_up hG hno k4 b o (hF.1 b o e), by rw [h]; exact hF.2⟩
theorem src_f0 {s₂ : Shared} {wr : List Addr} {spec : Nat → List Int} (hw : ∀ b ∈ wr, s.heap.get? b = none ∧ b < s₂.heap.objs.size) (hg : Grew s s₂) (h0 : spec 0 = []) :
    (∀ b o, s.heap.get? b = some o → (hideAll s₂.heap wr).get? b = some o) ∧ Ints [] (spec 0) :=
  ⟨fun b o e => hideAll_get _ (hg.keep b o e) fun q => (by rw [(hw b q).1] at e; cases e), by rw [h0]; exact .nil⟩
/-- a comprehension that makes numbers -/
theorem compI {elt iter : Expr} {x : Str} {px : Pos} {ifs : List Expr} {scope : Scope} {cl : List (Str × Addr)} {pos : Pos} {Q : Value → Shared → Prop} {n : Nat} {P : Nat → Value → Prop} (spec : Nat → List Int)
    (hclos : closureFor scope env = pure cl) (hcell : ∀ y ∈ scope.names, y.2 ≠ .cell) (hkind : scope.kind = .function)
    (hnames : ∀ y ∈ scope.names, y.2 = .local → scope.names.lookup y.1 = some .local) (hx : scope.names.lookup x = some .local)
    (h : wpAny (model prog w) A (eval iter env) (fun xv s₁ => wpAny (model prog w) A (pyIter xv) (Src w A s n P) E s₁) E s) (hsz : n ≤ sizeLine) (h0 : spec 0 = [])
    (T : TurnI w A env scope cl x ifs elt s n P spec)
    (fin : ∀ D h' tk ys, s.heap.get? D = none → (∀ b o, s.heap.get? b = some o → h'.get? b = some o) → PlainL h' D ys.toArray → Ints ys (spec n) → Q (.ref D) { s with heap := h', toks := tk })
    (hs : ∀ x, foldedSetIterable iter env x = pure x := by intro _; rfl) :
    wpAny (model prog w) A (eval (.ListComp elt [⟨.Name x px, iter, ifs, 0⟩] scope pos) env) Q E s := by
  refine compF hclos hcell hkind hnames hx (wpAny_mono h (fun xv s₁ h₁ => wpAny_mono h₁ (fun it s₂ h₂ => ?_) fun _ _ e => e) fun _ _ e => e) hs
  obtain ⟨I, fp, wr, St, rfl, W, st, hfp, hwr, hg⟩ := h₂
  refine ⟨I, fp, wr, wr, n, P, St, _, rfl, W, hsz, st, hfp, fun b q => q, fun b q => (hwr b q).2, src_f0 (spec := spec) hwr hg h0, turn_of T, fun D h' tk ys G hD pl hF _ _ hG _ => ?_⟩
  have hk := hg.keep
  obtain ⟨h₂, tk₂, rfl, k2⟩ := id hg
  exact fin D h' tk ys (by
    cases q : s.heap.get? D with
    | none => rfl
    | some o => rw [hk _ _ q] at hD; cases hD) (fun b o e => hG b o (hF.1 b o e)) pl hF.2
/-- the same, stored at once -/
theorem compIU {elt iter : Expr} {x y : Str} {px py : Pos} {ifs : List Expr} {scope : Scope} {cl : List (Str × Addr)} {pos spos : Pos} {Q : Flow → Shared → Prop} {n : Nat} {P : Nat → Value → Prop} (spec : Nat → List Int) {g : Heap} {m : Str → Option Value} {muts : List Addr}
    (hsw : swapsWith (.ListComp elt [⟨.Name x px, iter, ifs, 0⟩] scope pos) (some (.Name y py)) spos.line env = pure true) (F : Fx g env.locals s.heap m muts) (hm : ∀ a ∈ muts, a < s.heap.objs.size)
    (hy : env.kindOf y = some .local) (hp : (env.scope.kind == .class || (env.scope.kind == .module && env.locals != env.globals)) = false)
    (hclos : closureFor scope env = pure cl) (hcell : ∀ y ∈ scope.names, y.2 ≠ .cell) (hkind : scope.kind = .function)
    (hnames : ∀ y ∈ scope.names, y.2 = .local → scope.names.lookup y.1 = some .local) (hx : scope.names.lookup x = some .local)
    (h : wpAny (model prog w) A (eval iter env) (fun xv s₁ => wpAny (model prog w) A (pyIter xv) (Src w A s n P) E s₁) E s) (hsz : n ≤ sizeLine) (h0 : spec 0 = [])
    (T : TurnI w A env scope cl x ifs elt s n P spec)
    (fin : ∀ D h' tk ys, s.heap.get? D = none → Fx g env.locals h' (fun z => if z = y then some (.ref D) else m z) muts → (∀ b o, b ≠ env.locals → s.heap.get? b = some o → h'.get? b = some o) → PlainL h' D ys.toArray → Ints ys (spec n) → Q .next { s with heap := h', toks := tk })
    (hs : ∀ x, foldedSetIterable iter env x = pure x := by intro _; rfl) :
    wpAny (model prog w) A (exec (.Assign [.Name y py] (.ListComp elt [⟨.Name x px, iter, ifs, 0⟩] scope pos) spos) env) Q E s := by
  rw [exec_Assign_Name_used _ _ _ _ hsw]
  refine wpAny_bind (wpAny_standAt (wpAny_bind ?_))
  show wpAny _ A (do let _ ← comprehension (.ListComp elt [⟨.Name x px, iter, ifs, 0⟩] scope pos) scope env _ (newList []) false (eval iter env) (some (assign (.Name y py) env))) _ _ s
  refine wpAny_bind (wpAny_mono (wpAny_comprehension_free (use := some (assign (.Name y py) env)) (Q := fun _ s' => Q .next s') rfl hs hclos hkind hnames (wpAny_mono h (fun xv s₁ h₁ => wpAny_mono h₁ (fun it s₂ h₂ => ?_) fun _ _ e => e) fun _ _ e => e))
    (fun _ s' hq => wpAny_pure (wpAny_pure hq)) fun _ _ e => e)
  obtain ⟨I, fp, wr, St, rfl, W, st, hfp, hwr, hg⟩ := h₂
  refine compG hcell hkind hx W hsz st hfp (fun b q => q) (fun b q => (hwr b q).2) (src_f0 (spec := spec) hwr hg h0) (turn_of T) fun D C h' tk m' ys G hD hC hDC hn pl hF hGD hGC _ hG hk => ?_
  have hk2 := hg.keep
  obtain ⟨h₂, tk₂, rfl, k2⟩ := id hg
  have F' : Fx g env.locals h' m muts := ⟨F.toFr.keeps fun b o e => hG b o (hF.1 b o e), F.free, F.apart⟩
  obtain ⟨oL, _, _, hL, _⟩ := F.ns
  have hLC : env.locals ≠ C := by rintro q; rw [← q, hk2 _ _ hL] at hC; cases hC
  have hLD : env.locals ≠ D := by rintro q; rw [← q, hk2 _ _ hL] at hD; cases hD
  have gC : g.get? C = none := by
    cases q : g.get? C with
    | none => rfl
    | some o => rw [hk2 _ _ (F.keep _ _ q)] at hC; cases hC
  refine wpAny_assign_Name (wpAny_storeName_local hy F'.ns (fun h₄ hn₄ hs₄ => ?_) hp)
  refine ⟨m', hn.sameBut hs₄ (Ne.symm hLC), fun h₅ hs₅ => ?_⟩
  refine fin D h₅ _ ys (by
    cases q : s.heap.get? D with
    | none => rfl
    | some o => rw [hk2 _ _ q] at hD; cases hD) ((F'.store hn₄ hs₄).turn' gC (Ne.symm hLC) hs₅.extBut) (fun b o q e => ?_) (pl_same (pl_same pl hs₄ (Ne.symm hLD)) hs₅ hDC) hF.2
  have q2 : b ≠ C := by rintro rfl; rw [hk2 _ _ e] at hC; cases hC
  exact (hs₅.2 b q2).trans ((hs₄.2 b q).trans (hG b o (hF.1 b o e)))
theorem src_range {s₁ : Shared} {r : Addr} {lo n : Nat} {t u v : Tok} (hh : A.handled = none) (hg : Grew s s₁) (hle : s.heap.objs.size ≤ s₁.heap.objs.size) (hr : IsRange s₁.heap r lo (lo + n : Nat) 1 t u v) (hlo : lo + n < 2 ^ 20) :
    wpAny (model prog w) A (pyIter (.ref r)) (Src w A s n (fun i v => ∃ t, v = .int (lo + i : Nat) t)) E s₁ := by
  refine wpAny_pyIter_range hr (small_one (by omega) (by omega) (by omega) (by omega)) ?_
  have eR : Builtin.Range.rangeSize lo (lo + n : Nat) 1 = (n : Int) := by rw [rangeSize_one]; split <;> omega
  rw [eR]
  refine ⟨s₁.heap.objs.size, [s₁.heap.objs.size], [s₁.heap.objs.size], _, rfl, LCg.range_walks hh lo n |> fun W => ({ sub := W.sub, frame := W.frame, done := W.done, self := W.self, item := fun i s Q E hi st hQ => W.item i s Q E hi st fun v h' tk hP => hQ v h' tk (by obtain ⟨t, rfl⟩ := hP; exact ⟨t, by push_cast; rfl⟩) } : Walks prog w A s₁.heap.objs.size [s₁.heap.objs.size] [s₁.heap.objs.size] n (fun i v => ∃ t, v = .int (lo + i : Nat) t) _), ?_, ?_, ?_, ?_⟩
  · have e := Heap.get?_push_size s₁.heap (o := { cls := .type "range_iterator", data := .fields #[rawInt (lo : Int), rawInt (n : Int), rawInt 1] }) rfl
    simpa [IsRangeIter] using e
  · intro b hb
    obtain rfl := List.mem_singleton.mp hb
    show _ < (Heap.push _ _).objs.size
    rw [Heap.size_push]; exact Nat.lt_succ_self _
  · intro b hb
    obtain rfl := List.mem_singleton.mp hb
    refine ⟨Heap.get?_none_of_le hle, ?_⟩
    show _ < (Heap.push _ _).objs.size
    rw [Heap.size_push]; exact Nat.lt_succ_self _
  · obtain ⟨h₁, tk₁, rfl, k⟩ := hg
    exact ⟨_, _, rfl, fun b o e => Heap.get?_push_of_some _ (k b o e)⟩
theorem src_list {s₁ : Shared} {l : Addr} {vs : List Value} (hh : A.handled = none) (hg : Grew s s₁) (hle : s.heap.objs.size ≤ s₁.heap.objs.size) (hl : s₁.heap.IsList l vs.toArray) :
    wpAny (model prog w) A (pyIter (.ref l)) (Src w A s vs.length (fun i v => vs[i]? = some v)) E s₁ := by
  refine wpAny_pyIter_list hl ?_
  have e6 : (s₁.heap.push { cls := .type "list_iterator", data := .fields #[.ref l, .int 0 0] }).get? s₁.heap.objs.size = some { cls := .type "list_iterator", data := .fields #[.ref l, .int 0 0] } := Heap.get?_push_size _ rfl
  have hlt : l < s₁.heap.objs.size := let ⟨_, e, _⟩ := hl; Heap.lt_size e
  have W := Walks.list (prog := prog) (w := w) hh s₁.heap.objs.size l (Nat.ne_of_lt hlt) vs.toArray
  rw [List.size_toArray] at W
  refine ⟨s₁.heap.objs.size, _, _, _, rfl, ({ sub := W.sub, frame := W.frame, done := W.done, self := W.self, item := fun i s Q E hi st hQ => W.item i s Q E hi st fun v h' tk hP => hQ v h' tk (by simpa using hP) } : Walks prog w A s₁.heap.objs.size _ _ vs.length (fun i v => vs[i]? = some v) _), ⟨⟨_, e6, rfl, rfl⟩, hl.push _⟩, ?_, ?_, ?_⟩
  · intro b hb
    show _ < (Heap.push _ _).objs.size
    rw [Heap.size_push]
    rcases List.mem_cons.mp hb with rfl | hb
    · exact Nat.lt_succ_self _
    · obtain rfl := List.mem_singleton.mp hb
      exact Nat.lt_succ_of_lt hlt
  · intro b hb
    obtain rfl := List.mem_singleton.mp hb
    refine ⟨Heap.get?_none_of_le hle, ?_⟩
    show _ < (Heap.push _ _).objs.size
    rw [Heap.size_push]; exact Nat.lt_succ_self _
  · obtain ⟨h₁, tk₁, rfl, k⟩ := hg
    exact ⟨_, _, rfl, fun b o e => Heap.get?_push_of_some _ (k b o e)⟩
end
end Mine

end
section
open PySem PySem.W PySem.W.X PyProof.Rows Builtin
set_option linter.unusedVariables false
namespace Mine
set_option maxRecDepth 100000
section
variable {w : World} {A : Around} {E : Value → Shared → Prop} {s : Shared}
theorem ints_rows {vs : List Value} {ns : List Int} (x : Ints vs ns) : PyProof.Rows.IntsAre vs ns := x.are
theorem sum_il {l : Addr} {vs : List Value} {ns : List Int} {Q : Value → Shared → Prop} (hh : A.handled = none) (hl : s.heap.IsList l vs.toArray) (hi : Ints vs ns)
    (h : ∀ h' tk t', (∀ b o, s.heap.get? b = some o → h'.get? b = some o) → Q (.int ns.sum t') { s with heap := h', toks := tk }) : wpAny (model prog w) A (call (.builtin "sum") [.ref l]) Q E s := by
  obtain ⟨xs, hx⟩ := hi.are.allInts.items
  have hl' : s.heap.IsList l (intItems xs) := hx ▸ hl
  refine sum_intListG hh hl' fun h' tk t' hk => ?_
  have e1 : ns = xs.toList.map (·.1) := by
    rw [← nums_intItems, ← hx]
    exact (show numsOf vs.toArray.toList = ns from hi.are.numsOf).symm
  have e2 : preSum (numAt xs) xs.size = ns.sum := by
    rw [preSum_eq, List.take_of_length_le (by simp), e1]
  rw [e2]
  exact h h' tk t' hk
theorem all_eq {ns ms : List Int} (hl : ns.length = ms.length) : ((List.range ns.length).all fun j => ns.getD j 0 == ms.getD j 0) = decide (ns = ms) := by
  rw [Bool.eq_iff_iff, List.all_eq_true, decide_eq_true_iff]
  constructor
  · intro h
    apply List.ext_getElem hl
    intro i h1 h2
    have := h i (List.mem_range.mpr h1)
    rw [List.getD_eq_getElem?_getD, List.getD_eq_getElem?_getD, List.getElem?_eq_getElem h1, List.getElem?_eq_getElem h2] at this
    simpa using this
  · rintro rfl i _
    simp
theorem eqAt_ints {vs us : List Value} {ns ms : List Int} (hi : Ints vs ns) (hi' : Ints us ms) : ∀ j (h1 : j < vs.toArray.size) (h2 : j < us.toArray.size), SeqAt.EqAt A.in1 s vs.toArray[j] us.toArray[j] (ns.getD j 0 == ms.getD j 0) := by
  intro j h1 h2
  obtain ⟨t, e1⟩ := hi.val (i := j) (v := vs.toArray[j]) (by simp)
  obtain ⟨u, e2⟩ := hi'.val (i := j) (v := us.toArray[j]) (by simp)
  rw [e1, e2]
  exact SeqAt.EqAt.int_int _ _ _ _
theorem ne_il {l b : Addr} {vs us : List Value} {ns ms : List Int} {Q : Value → Shared → Prop} (hu : A.units < cLine) (hl : s.heap.IsList l vs.toArray) (hi : Ints vs ns) (hb : s.heap.IsList b us.toArray) (hi' : Ints us ms)
    (h : Q (.bool (!decide (ns = ms))) s) : wpAny (model prog w) A (compareOp .NotEq (.ref l) (.ref b)) Q E s := by
  by_cases hn : ns.length = ms.length
  · refine SeqAt.RcNeAt.lists hl hb (by simp [hi.length, hi'.length, hn]) hu (eqAt_ints hi hi') prog w E Q ?_
    have : vs.toArray.size = ns.length := by simp [hi.length]
    rw [this, all_eq hn]
    exact h
  · refine SeqAt.RcNeAt.lists_lengths hl hb (by simp [hi.length, hi'.length, hn]) hu prog w E Q ?_
    rw [decide_eq_false (fun q => hn (by rw [q]))] at h
    exact h
theorem eq_il {l b : Addr} {vs us : List Value} {ns ms : List Int} {Q : Value → Shared → Prop} (hu : A.units < cLine) (hl : s.heap.IsList l vs.toArray) (hi : Ints vs ns) (hb : s.heap.IsList b us.toArray) (hi' : Ints us ms)
    (h : Q (.bool (decide (ns = ms))) s) : wpAny (model prog w) A (compareOp .Eq (.ref l) (.ref b)) Q E s := by
  by_cases hn : ns.length = ms.length
  · refine SeqAt.eq_listAt hl hb (by simp [hi.length, hi'.length, hn]) hu (eqAt_ints hi hi') ?_
    have : vs.toArray.size = ns.length := by simp [hi.length]
    rw [this, all_eq hn]
    exact h
  · refine SeqAt.eq_list_lengthsAt hl hb (by simp [hi.length, hi'.length, hn]) hu ?_
    rw [decide_eq_false (fun q => hn (by rw [q]))] at h
    exact h
theorem add_il {l b : Addr} {vs ws : List Value} {Q : Value → Shared → Prop} (hl : s.heap.IsList l vs.toArray) (hb : s.heap.IsList b ws.toArray) (hsz : vs.length + ws.length ≤ sizeLine)
    (h : Q (.ref s.heap.objs.size) { s with heap := s.heap.push { cls := .type "list", data := .seq (vs ++ ws).toArray } }) : wpAny (model prog w) A (binaryOp .Add (.ref l) (.ref b)) Q E s := by
  obtain ⟨⟨cls, dd, data, sl⟩, ho, hc, n, hd⟩ := id hl
  obtain ⟨⟨cls2, dd2, data2, sl2⟩, ho2, hc2, n2, hd2⟩ := id hb
  simp only at hc hd hc2 hd2
  subst hc hd hc2 hd2
  have e : vs.toArray ++ ws.toArray = (vs ++ ws).toArray := by simp
  refine concat_meets ⟨_, ho, rfl⟩ ⟨_, ho2, rfl⟩ noFill_list_add seq_list_add PySem.F.slot_list_add PySem.F.entry_list_add (PySem.F.args_list_add_2 _ _) (list_addW l b vs.toArray ws.toArray n n2 dd dd2 sl sl2 (by simpa using hsz)) ⟨ho, ho2, ?_⟩
  rw [e]
  exact h
theorem Ints.take {vs : List Value} {ns : List Int} (x : Ints vs ns) : ∀ k, Ints (vs.take k) (ns.take k) := by
  induction x with
  | nil => intro k; simpa using Ints.nil
  | cons _ ih => intro k; cases k with
    | zero => exact .nil
    | succ k => exact .cons (ih k)
theorem Ints.append {vs ws : List Value} {ns ms : List Int} (x : Ints vs ns) (y : Ints ws ms) : Ints (vs ++ ws) (ns ++ ms) := by
  induction x with
  | nil => exact y
  | cons _ ih => exact .cons ih
theorem Ints.reverse {vs : List Value} {ns : List Int} (x : Ints vs ns) : Ints vs.reverse ns.reverse := by
  induction x with
  | nil => exact .nil
  | cons _ ih => rw [List.reverse_cons, List.reverse_cons]; exact ih.append (.cons .nil)
/-- x[::-1] -/
theorem rev_il {env : Env} {x : Str} {p1 p2 p3 p4 pos : Pos} {l : Addr} {vs : List Value} {k : Nat} {Q : Value → Shared → Prop} (hl : s.heap.IsList l vs.toArray) (hsz : vs.length ≤ sizeLine)
    (hx : ∀ Q' : Value → Shared → Prop, Q' (.ref l) s → wpAny (model prog w) A (eval (.Name x p1) env) Q' E s)
    (h : ∀ h' tk D, (∀ b o, s.heap.get? b = some o → h'.get? b = some o) → s.heap.get? D = none → PlainL h' D vs.reverse.toArray → Q (.ref D) { s with heap := h', toks := tk }) :
    wpAny (model prog w) A (eval (.Subscript (.Name x p1) (.Slice none none (some (.UnaryOp .USub (.Constant (.int 1) k p2) p3)) p4) pos) env) Q E s := by
  refine wpAny_Subscript_Slice_step (T := "list") list_getitem_lookup (hx _ (wpAny_Slice (wpAny_evalPart_none (wpAny_evalPart_none (wpAny_evalPart_some (wpAny_UnaryOp (wpAny_Constant_int (neg_int ?_)))))))) (by intro _ _; rfl)
  dsimp only
  refine ⟨(hl.push _).typeIs, wpAny_getItem_list_slice (hl.push _) (Heap.IsSliceOf.new ..) .none .none (.int _ _) (by decide) ?_ (by simpa using hsz)⟩
  rw [krv_pick]
  refine h _ _ _ (fun b o e => Heap.get?_push_of_some _ (Heap.get?_push_of_some _ e)) (Heap.get?_none_of_le (by rw [Heap.size_push]; exact Nat.le_succ _)) (newPlain _)
/-- x[k] -/
theorem getD_val {vs : List Value} {ns : List Int} (hi : Ints vs ns) {i : Nat} (h : i < ns.length) : ∃ t, vs[i]? = some (.int (ns.getD i 0) t) := hi.get (getD_get h)
end
end Mine

end
section
namespace Mine
section
variable {v v' : Nat → Int} {N : Nat} (hv : ∀ a b, a < N → b < N → (v a < v b ↔ v' a < v' b))
noncomputable def LowF (n N : Nat) (f : Nat → Nat) : Prop := ∀ j, j < n → f j < N
theorem LowF.upd {n N : Nat} {f : Nat → Nat} (h : LowF n N f) {i x : Nat} (hx : x < N) : LowF n N (upd f i x) := by
  intro j hj
  unfold Mine.upd
  split
  · exact hx
  · exact h j hj
theorem sd_low {n x start : Nat} (hx : x < N) : ∀ k f pos log, LowF n N f → pos < n → LowF n N (sd v x start k f pos log).1
  | 0, f, pos, log, h, hp => h.upd hx
  | k + 1, f, pos, log, h, hp => by
    unfold sd
    split
    · split
      · exact sd_low hx k _ _ _ (h.upd (h _ (by omega))) (by omega)
      · exact h.upd hx
    · exact h.upd hx
theorem down_low {n : Nat} : ∀ k f pos log, LowF n N f → pos < n → LowF n N (down v n k f pos log).1 ∧ (down v n k f pos log).2.1 < n
  | 0, f, pos, log, h, hp => ⟨h, hp⟩
  | k + 1, f, pos, log, h, hp => by
    unfold down
    split
    · rename_i hc
      have hl := child_lt (v := v) (f := f) hc
      exact down_low k _ _ _ (h.upd (h _ hl)) hl
    · exact ⟨h, hp⟩
theorem su_low {n : Nat} {f : Nat → Nat} {pos : Nat} {log : Log} (h : LowF n N f) (hp : pos < n) : LowF n N (su v n f pos log).1 := by
  unfold su
  obtain ⟨a, b⟩ := down_low (v := v) (N := N) n f pos log h hp
  exact sd_low (h _ hp) _ _ _ _ (a.upd (h _ hp)) b
include hv
theorem sd_cl {n x start : Nat} (hx : x < N) : ∀ k f pos log, LowF n N f → pos < n → sd v x start k f pos log = sd v' x start k f pos log
  | 0, _, _, _, _, _ => rfl
  | k + 1, f, pos, log, h, hp => by
    have hq : (pos - 1) / 2 < n := by omega
    unfold sd
    rw [sd_cl hx k _ _ _ (h.upd (h _ hq)) hq]
    simp only [hv x (f ((pos - 1) / 2)) hx (h _ hq)]
theorem child_cl {n : Nat} {f : Nat → Nat} {c : Nat} (h : LowF n N f) : child v n f c = child v' n f c := by
  unfold child
  split
  · rename_i hc
    simp only [hv (f c) (f (c + 1)) (h _ (by omega)) (h _ hc)]
  · rfl
theorem down_cl {n : Nat} : ∀ k f pos log, LowF n N f → down v n k f pos log = down v' n k f pos log
  | 0, _, _, _, _ => rfl
  | k + 1, f, pos, log, h => by
    unfold down
    rw [child_cl hv h]
    split
    · rename_i hc
      have hl := child_lt (v := v') (f := f) hc
      exact down_cl k _ _ _ (h.upd (h _ hl))
    · rfl
theorem su_cl {n : Nat} {f : Nat → Nat} {pos : Nat} {log : Log} (h : LowF n N f) (hp : pos < n) : su v n f pos log = su v' n f pos log := by
  unfold su
  rw [down_cl hv n f pos log h]
  obtain ⟨a, b⟩ := down_low (v := v') (N := N) n f pos log h hp
  exact sd_cl hv (h _ hp) _ _ _ _ (a.upd (h _ hp)) b
theorem hy_cl {n : Nat} : ∀ i f log, i ≤ n → LowF n N f → hy v n i f log = hy v' n i f log
  | 0, _, _, _, _ => rfl
  | i + 1, f, log, hi, h => by
    unfold hy
    rw [su_cl hv h (by omega)]
    exact hy_cl i _ _ (by omega) (su_low h (by omega))
theorem pus_cl : ∀ k, k ≤ N → pus v k = pus v' k ∧ LowF k N (pus v' k).1
  | 0, _ => ⟨rfl, fun j hj => absurd hj (Nat.not_lt_zero _)⟩
  | k + 1, hk => by
    obtain ⟨e, l⟩ := pus_cl k (by omega)
    have l2 : LowF (k + 1) N (upd (pus v' k).1 k k) := by
      intro j hj
      unfold upd
      split
      · omega
      · exact l j (by omega)
    constructor
    · unfold pus pu
      rw [e]
      simp only [sd_cl hv (n := k + 1) (start := 0) (show k < N by omega) k _ k _ l2 (by omega)]
    · unfold pus pu
      exact sd_low (by omega) _ _ _ _ l2 (by omega)
end
/-! the lists of the law -/
noncomputable def drawnOf (ms : List Int) : List Int := (ms.take 16).map (fun z => z.fmod 1000) ++ [3, 1, 4, 1, 5]
noncomputable def risOf (ds : List Int) : List Int := (List.range ds.length).map fun k => (ds.take (k + 1)).sum + (k : Nat)
theorem drawn_len (ms : List Int) : 5 ≤ (drawnOf ms).length ∧ (drawnOf ms).length < 22 := by
  simp only [drawnOf, List.length_append, List.length_map, List.length_take, List.length_cons, List.length_nil]
  omega
theorem drawn_nn (ms : List Int) : ∀ d ∈ drawnOf ms, 0 ≤ d := by
  intro d hd
  rcases List.mem_append.mp hd with h | h
  · obtain ⟨z, _, rfl⟩ := List.mem_map.mp h
    rw [Int.fmod_eq_emod_of_nonneg _ (by decide)]
    omega
  · simp only [List.mem_cons, List.not_mem_nil, or_false] at h
    omega
theorem ris_len (ds : List Int) : (risOf ds).length = ds.length := by simp [risOf]
theorem ris_get {ds : List Int} {k : Nat} (h : k < ds.length) : (risOf ds).getD k 0 = (ds.take (k + 1)).sum + (k : Nat) := by
  simp [risOf, List.getD_eq_getElem?_getD, h]
theorem ris_mono {ds : List Int} (nn : ∀ d ∈ ds, 0 ≤ d) : ∀ b a, a < b → b < ds.length → (risOf ds).getD a 0 < (risOf ds).getD b 0
  | 0, a, h, _ => absurd h (Nat.not_lt_zero _)
  | b + 1, a, h, hb => by
    have s : (risOf ds).getD b 0 < (risOf ds).getD (b + 1) 0 := by
      rw [ris_get (by omega), ris_get hb, List.take_succ_eq_append_getElem hb, List.sum_append]
      have := nn _ (List.getElem_mem hb)
      simp only [List.sum_cons, List.sum_nil]
      push_cast
      omega
    by_cases hab : a = b
    · rw [hab]; exact s
    · have := ris_mono nn b a (by omega) (by omega)
      omega
theorem ris_iff {ds : List Int} (nn : ∀ d ∈ ds, 0 ≤ d) (a b : Nat) (ha : a < ds.length) (hb : b < ds.length) : (risOf ds).getD a 0 < (risOf ds).getD b 0 ↔ a < b := by
  constructor
  · intro h
    by_cases hab : a < b
    · exact hab
    · by_cases e : a = b
      · rw [e] at h; omega
      · have := ris_mono nn a b (by omega) ha; omega
  · exact fun h => ris_mono nn b a h hb
theorem ris_inj {ds : List Int} (nn : ∀ d ∈ ds, 0 ≤ d) (a b : Nat) (ha : a < ds.length) (hb : b < ds.length) (h : (risOf ds).getD a 0 = (risOf ds).getD b 0) : a = b := by
  rcases Nat.lt_trichotomy a b with q | q | q
  · have := ris_mono nn b a q hb; omega
  · exact q
  · have := ris_mono nn a b q ha; omega
theorem ris_hy {ds : List Int} (nn : ∀ d ∈ ds, 0 ≤ d) : hy (fun j => (risOf ds).getD j 0) ds.length (ds.length / 2) (fun i => i) [] = hy vUp ds.length (ds.length / 2) (fun i => i) [] :=
  hy_cl (N := ds.length) (fun a b ha hb => by rw [ris_iff nn a b ha hb]; unfold vUp; omega) _ _ _ (by omega) (fun j hj => hj)
theorem map_getD (l : List Int) : ((List.range l.length).map fun j => l.getD j 0) = l := by
  apply List.ext_getElem
  · simp
  · intro i h1 h2
    simp [List.getD_eq_getElem?_getD, h2]
theorem ris_kept {ds : List Int} (nn : ∀ d ∈ ds, 0 ≤ d) (h5 : 5 ≤ ds.length) (h22 : ds.length < 22) :
    ((List.range ds.length).map fun j => (risOf ds).getD ((hy (fun j => (risOf ds).getD j 0) ds.length (ds.length / 2) (fun i => i) []).1 j) 0) = risOf ds := by
  rw [ris_hy nn]
  have e := (up_all _ h22 h5).1
  have e2 : (List.range ds.length).map (fun j => (hy vUp ds.length (ds.length / 2) (fun i => i) []).1 j) = List.range ds.length := e
  have e3 : ((List.range ds.length).map fun j => (risOf ds).getD ((hy vUp ds.length (ds.length / 2) (fun i => i) []).1 j) 0) = ((List.range ds.length).map (fun j => (hy vUp ds.length (ds.length / 2) (fun i => i) []).1 j)).map fun j => (risOf ds).getD j 0 := by
    rw [List.map_map]; rfl
  rw [e3, e2]
  have := map_getD (risOf ds)
  rwa [ris_len] at this
noncomputable def nZ (l : List Nat) : List Int := l.map fun (x : Nat) => (x : Int)
theorem nZ_sum (l : List Nat) : (nZ l).sum = (l.sum : Nat) := by
  induction l with
  | nil => rfl
  | cons a l ih => simp only [nZ, List.map_cons, List.sum_cons] at ih ⊢; rw [ih]; push_cast; rfl
theorem ris_log {ds : List Int} (nn : ∀ d ∈ ds, 0 ≤ d) (h5 : 5 ≤ ds.length) (h22 : ds.length < 22) :
    (((hy (fun j => (risOf ds).getD j 0) ds.length (ds.length / 2) (fun i => i) []).2.length : Nat) : Int) = 2 * (nZ (halves ds.length).1).sum - ((halves ds.length).2 : Nat) ∧
    heldOf ds.length (hy (fun j => (risOf ds).getD j 0) ds.length (ds.length / 2) (fun i => i) []).2 = (List.range ds.length).map (fun k => ((halves ds.length).1.filter fun s => decide (k < s)).length) ∧
    (∀ p ∈ (hy (fun j => (risOf ds).getD j 0) ds.length (ds.length / 2) (fun i => i) []).2, p.1 < ds.length ∧ p.2 < ds.length) ∧
    (hy (fun j => (risOf ds).getD j 0) ds.length (ds.length / 2) (fun i => i) []).2.length = mcs ds.length (ds.length / 2) := by
  rw [ris_hy nn]
  obtain ⟨_, e2, e3, e4, e5, e6⟩ := up_all _ h22 h5
  have f2 : (hy vUp ds.length (ds.length / 2) (fun i => i) []).2.length = 2 * (halves ds.length).1.sum - (halves ds.length).2 := e2
  refine ⟨?_, e4, fun p hp => ?_, by rw [f2, e5]⟩
  · rw [f2, nZ_sum]; omega
  · have := List.all_eq_true.mp e6 p hp
    simpa using this
theorem mcs_le : ∀ n, n < 22 → mcs n (n / 2) < 1000 := by decide +kernel
theorem fewer_le {ds : List Int} (nn : ∀ d ∈ ds, 0 ≤ d) (h5 : 5 ≤ ds.length) (h22 : ds.length < 22) :
    (hy (fun j => ds.getD j 0) ds.length (ds.length / 2) (fun i => i) []).2.length ≤ (hy (fun j => (risOf ds).getD j 0) ds.length (ds.length / 2) (fun i => i) []).2.length := by
  rw [(ris_log nn h5 h22).2.2.2]
  have := hy_len (fun j => ds.getD j 0) ds.length (ds.length / 2) (fun i => i) []
  simpa using this
noncomputable def heapOf (ds : List Int) : List Int := (List.range ds.length).map fun j => ds.getD ((hy (fun j => ds.getD j 0) ds.length (ds.length / 2) (fun i => i) []).1 j) 0
theorem heap_len (ds : List Int) : (heapOf ds).length = ds.length := by simp [heapOf]
theorem heap_perm (ds : List Int) : (heapOf ds).Perm ds := by
  have p := hy_perm (v := fun j => ds.getD j 0) (n := ds.length) (ds.length / 2) (f := fun i => i) (log := []) (by omega)
  have q := p.map (fun j => ds.getD j 0)
  have e : (rowL ds.length fun i => i).map (fun j => ds.getD j 0) = ds := by
    unfold rowL; rw [List.map_id']; exact map_getD ds
  rw [e] at q
  have e2 : heapOf ds = (rowL ds.length (hy (fun j => ds.getD j 0) ds.length (ds.length / 2) (fun i => i) []).1).map (fun j => ds.getD j 0) := by
    unfold heapOf rowL; rw [List.map_map]; rfl
  rw [e2]; exact q
theorem heap_get {ds : List Int} {k : Nat} (h : k < ds.length) : (heapOf ds).getD k 0 = ds.getD ((hy (fun j => ds.getD j 0) ds.length (ds.length / 2) (fun i => i) []).1 k) 0 := by
  simp [heapOf, List.getD_eq_getElem?_getD, h]
theorem heap_ok (ds : List Int) (k : Nat) (h0 : 0 < k) (h : k < ds.length) : ¬ (heapOf ds).getD k 0 < (heapOf ds).getD ((k - 1) / 2) 0 := by
  rw [heap_get h, heap_get (by omega)]
  have := hy_heap (v := fun j => ds.getD j 0) (n := ds.length) (f := fun i => i) (log := []) k h0 h (Nat.zero_le _)
  exact Int.not_lt.mpr this
theorem sorted_eq {l l' : List Int} (p : l.Perm l') (h : l.Pairwise (· ≤ ·)) (h' : l'.Pairwise (· ≤ ·)) : l = l' :=
  p.eq_of_pairwise (le := fun a b => a ≤ b) (fun a b _ _ h1 h2 => by omega) h h'
theorem rev_get {l : List Int} {j : Nat} (h : j < l.length) : l.reverse.getD j 0 = l.getD (l.length - 1 - j) 0 := by
  rw [List.getD_eq_getElem?_getD, List.getD_eq_getElem?_getD, List.getElem?_reverse h]
theorem ris_push {ds : List Int} (nn : ∀ d ∈ ds, 0 ≤ d) (h22 : ds.length < 22) : (pus (fun j => (risOf ds).reverse.getD j 0) ds.length).2.2 = ways ds.length := by
  rw [(pus_cl (v' := vDn) (N := ds.length) (fun a b ha hb => by
    rw [rev_get (by rw [ris_len]; exact ha), rev_get (by rw [ris_len]; exact hb), ris_len, ris_iff nn _ _ (by omega) (by omega)]; unfold vDn; omega) ds.length (Nat.le_refl _)).1]
  exact dn_all _ h22
theorem halves_small : ∀ n, n < 22 → (halves n).1.length < 1000 := by decide +kernel
theorem ways_len (n : Nat) : (ways n).length = n := by simp [ways]
theorem ways_get {n k : Nat} (h : k < n) (h22 : n < 22) : (nZ (ways n)).getD k 0 = ((halves (k + 1)).1.length : Int) - 1 := by
  have := (ways_all k (by omega)).2
  simp only [nZ, ways, List.map_map, List.getD_eq_getElem?_getD, List.getElem?_map, List.getElem?_range h, Option.map_some, Option.getD_some, Function.comp]
  omega
theorem counts_ok (ds : List Int) (h22 : ds.length < 22) (k : Nat) (hk : k < ds.length) :
    let c := (nZ (pus (fun j => ds.getD j 0) ds.length).2.2).getD k 0
    let w := (nZ (ways ds.length)).getD k 0
    0 ≤ w ∧ (if w < 1 then w else 1) ≤ c ∧ c ≤ w := by
  obtain ⟨hl, hc⟩ := pus_counts (fun j => ds.getD j 0) ds.length
  obtain ⟨c, h1, h2, h3⟩ := hc k hk
  have e1 : (nZ (pus (fun j => ds.getD j 0) ds.length).2.2).getD k 0 = c := by
    generalize (pus (fun j => ds.getD j 0) ds.length).2.2 = cs at h1
    simp only [nZ, List.getD_eq_getElem?_getD, List.getElem?_map, h1, Option.map_some, Option.getD_some]
  have w1 := ways_get hk h22
  obtain ⟨w2, w3⟩ := ways_all k (by omega)
  dsimp only
  rw [e1, w1]
  have : k = 0 → ups 0 k k = 0 := fun z => by rw [z]; rfl
  split <;> omega
theorem push_len (ds : List Int) : (nZ (pus (fun j => ds.getD j 0) ds.length).2.2).length = ds.length := by
  unfold nZ; rw [List.length_map]; exact (pus_counts (fun j => ds.getD j 0) ds.length).1
end Mine

end
section
open PySem PySem.W PySem.W.X PyProof.Rows Builtin
set_option linter.unusedVariables false
namespace Mine
set_option maxRecDepth 100000
noncomputable abbrev lawEnv (L a : Addr) (cd : Value) (cD cS cH cW cC : Addr) : Env := envX "law" (scoAt 17) L a cd [("counts", cC), ("ways", cW), ("heap", cH), ("sizes", cS), ("drawn", cD)]
section
variable {w : World} {A : Around} {E : Value → Shared → Prop} {s : Shared} {env : Env} {mg mb : Str → Option Value}
theorem cB {x : Str} {pos : Pos} {v : Value} {Q : Value → Shared → Prop} (hg : s.heap.Ns mainGlobals mg) (hb : s.heap.Ns builtinsNs mb) (hm : mg x = none ∧ mb x = some v) (h : Q v s)
    (hk : env.scope.kind = .function := by rfl) (hx : env.kindOf x = some .globalImplicit := by rfl) (hgl : env.globals = mainGlobals := by rfl) (hbu : env.builtins = builtinsNs := by rfl) (hd : (x == ("__debug__" : Str)) = false := by decide) :
    wpAny (model prog w) A (eval (.Name x pos) env) Q E s :=
  Calls.Name_function_global hk hx (Calls.loadGlobal_builtin (hgl ▸ hg) hm.1 (hbu ▸ hb) hm.2 h) hd
theorem cG {x : Str} {pos : Pos} {v : Value} {Q : Value → Shared → Prop} (hg : s.heap.Ns mainGlobals mg) (hm : mg x = some v) (h : Q v s)
    (hk : env.scope.kind = .function := by rfl) (hx : env.kindOf x = some .globalImplicit := by rfl) (hgl : env.globals = mainGlobals := by rfl) (hd : (x == ("__debug__" : Str)) = false := by decide) :
    wpAny (model prog w) A (eval (.Name x pos) env) Q E s :=
  Calls.Name_function_global hk hx (Calls.loadGlobal_global (hgl ▸ hg) hm h) hd
theorem cL {x : Str} {pos : Pos} {v : Value} {m : Str → Option Value} {Q : Value → Shared → Prop} (hn : s.heap.Ns env.locals m) (hm : m x = some v) (h : Q v s)
    (hk : env.scope.kind = .function := by rfl) (hx : env.kindOf x = some .local := by rfl) (hd : (x == ("__debug__" : Str)) = false := by decide) :
    wpAny (model prog w) A (eval (.Name x pos) env) Q E s := wpAny_Name (wpAny_loadName_local hk hx hn hm h) hd
theorem lCe {x : Str} {pos : Pos} {v : Value} {c : Addr} {Q : Value → Shared → Prop} (hv : s.heap.IsCell c (some v)) (h : Q v s)
    (hc : env.cells.lookup x = some c := by rfl) (hk : env.scope.kind = .function := by rfl) (hx : env.kindOf x = some .cell := by rfl) (hd : (x == ("__debug__" : Str)) = false := by decide) :
    wpAny (model prog w) A (eval (.Name x pos) env) Q E s := wpAny_Name (wpAny_loadName_cell hk hx hc hv h) hd
theorem turn0 {scope : Scope} {cl : List (Str × Addr)} {x : Str} {elt : Expr} {n : Nat} {P : Nat → Value → Prop} {spec : Nat → List Int}
    (h : ∀ C i v (s₃ : Shared) m₃ (E' : Value → Shared → Prop), P i v → i < n → (∀ b o, s.heap.get? b = some o → s₃.heap.get? b = some o) → s₃.heap.Ns C m₃ → m₃ x = some v →
      wpAny (model prog w) A (eval elt (compEnvC scope cl C env)) (fun y s₅ => Grew s₃ s₅ ∧ ∃ z t, y = .int z t ∧ spec (i + 1) = spec i ++ [z]) E' s₃) : TurnI w A env scope cl x [] elt s n P spec := by
  intro C i v s₃ m₃ E' hP hi hk hn hm
  refine wpAny_tests_nil ⟨.refl _, ?_⟩
  rw [if_pos rfl]
  exact h C i v s₃ m₃ E' hP hi hk hn hm
theorem spec_map {f : Nat → Int} {i : Nat} : (List.range (i + 1)).map f = (List.range i).map f ++ [f i] := by rw [List.range_succ, List.map_append]; rfl
theorem grew_mk {h : Heap} {tk : Nat} (k : ∀ b o, s.heap.get? b = some o → h.get? b = some o) : Grew s { s with heap := h, toks := tk } := ⟨h, tk, rfl, k⟩
/-- range(len(x)) -/
theorem rangeLen {p1 p2 p3 p4 p5 : Pos} {x : Str} {l : Addr} {vs : List Value} (hh : A.handled = none) (hg : s.heap.Ns mainGlobals mg) (hb : s.heap.Ns builtinsNs mb) (br : mg "range" = none ∧ mb "range" = some (.type "range")) (bl : mg "len" = none ∧ mb "len" = some (.builtin "len"))
    (hx : ∀ Q' : Value → Shared → Prop, Q' (.ref l) s → wpAny (model prog w) A (eval (.Name x p3) env) Q' E s) (hl : s.heap.IsList l vs.toArray) (hn : vs.length < 1000)
    (hk : env.scope.kind = .function := by rfl) (hx1 : env.kindOf "range" = some .globalImplicit := by rfl) (hx2 : env.kindOf "len" = some .globalImplicit := by rfl) (hgl : env.globals = mainGlobals := by rfl) (hbu : env.builtins = builtinsNs := by rfl) :
    wpAny (model prog w) A (eval (.Call (.Name "range" p1) [.Call (.Name "len" p2) [.Name x p3] [] p4] [] p5) env) (fun xv s₁ => wpAny (model prog w) A (pyIter xv) (Src w A s vs.length (fun i v => ∃ t, v = .int (0 + i : Nat) t)) E s₁) E s := by
  refine Call_ (cB hg hb br (callWith_type1 (args_cons (Call_ (cB hg hb bl (PyProof.Rows.callWith_builtin1 (args_cons (hx _ (args_nil (Calls.call_len_list hl (by simp; omega) ?_)))) ) hk hx2 hgl hbu)))) hk hx1 hgl hbu)
  refine args_nil (call_range_1 ?_)
  dsimp only
  refine src_range (lo := 0) (n := vs.length) hh (grew_mk fun b o e => Heap.get?_push_of_some _ e) ?_ (t := s.toks + 1 + 1) (u := s.toks + 1) (v := s.toks + 1 + 1 + 1) ?_ ?_
  · dsimp only; rw [Heap.size_push]; exact Nat.le_succ _
  rotate_left
  · omega
  have e := IsRange.new s.heap 0 (vs.length : Nat) 1 (s.toks + 1 + 1) (s.toks + 1) (s.toks + 1 + 1 + 1)
  simpa using e
/-- drawn -/
theorem lawDrawn {p1 p2 p3 p4 p5 p6 p7 p8 p9 pa pb pc pd pe pf : Pos} {k1 k2 k3 k4 k5 k6 k7 : Nat} {R L a : Addr} {cd : Value} {cD cS cH cW cC : Addr} {vs : List Value} {ms : List Int} {m : Str → Option Value} {Q : Value → Shared → Prop}
    (hh : A.handled = none) (hn : s.heap.Ns L m) (hm : m "script" = some (.ref R)) (hl : s.heap.IsList R vs.toArray) (hi : Ints vs ms) (hsz : vs.length < 1000)
    (h : ∀ D h' tk ws, (∀ b o, s.heap.get? b = some o → h'.get? b = some o) → PlainL h' D ws.toArray → Ints ws (drawnOf ms) → Q (.ref D) { s with heap := h', toks := tk }) :
    wpAny (model prog w) A (eval (.BinOp (.ListComp (.BinOp (.Name "number" p1) .Mod (.Constant (.int 1000) k1 p2) p3) [⟨.Name "number" p4, .Subscript (.Name "script" p5) (.Slice none (some (.Constant (.int 16) k2 p6)) none p7) p8, [], 0⟩]
      { kind := .function, names := [(".0", .local), ("number", .local)], isGenerator := false, isCoroutine := false, more := [] } p9) .Add (.List [.Constant (.int 3) k3 pa, .Constant (.int 1) k4 pb, .Constant (.int 4) k5 pc, .Constant (.int 1) k6 pd, .Constant (.int 5) k7 pe] pf) pos)
      (lawEnv L a cd cD cS cH cW cC)) Q E s := by
  refine wpAny_BinOp (compI (cl := []) (n := (vs.take 16).length) (P := fun i v => (vs.take 16)[i]? = some v) (fun i => ((ms.take 16).take i).map fun z => z.fmod 1000) (by kernel_rfl) (by decide) rfl (by decide) (by rfl) ?_ (by simp [sizeLine]; omega) (by simp) ?_ ?_)
  · refine wpAny_Subscript_list_slice (cL hn hm (wpAny_evalPart_none (wpAny_evalPart_some (wpAny_Constant_int ⟨R, _, _, _, rfl, hl, by simp [sizeLine]; omega, .none, .int _ _, ?_⟩))))
    have e := slicePick_upto' vs.toArray 16
    have e2 : slicePick vs.toArray none (some 16) none = (vs.take 16).toArray := e
    rw [e2]
    refine src_list hh ⟨_, _, rfl, fun b o e => Heap.get?_push_of_some _ (Heap.get?_push_of_some _ e)⟩ ?_ ?_
    · dsimp only
      rw [Heap.size_push, Heap.size_push]; exact Nat.le_trans (Nat.le_succ _) (Nat.le_succ _)
    · have := newPlain (h := s.heap.push { cls := .type "slice", data := .fields #[.none, .int 16 s.toks, .none] }) (vs.take 16).toArray
      rw [Heap.size_push] at this
      exact this.isList
  · refine turn0 fun C i v s₃ m₃ E' hP hi' hk hn₃ hm₃ => ?_
    obtain ⟨t, rfl⟩ := (hi.take 16).val hP
    have hlt : i < (ms.take 16).length := by rw [← (hi.take 16).length]; exact hi'
    refine wpAny_BinOp (cL hn₃ hm₃ (wpAny_Constant_int (mod_int (by decide) ⟨grew_mk fun _ _ e => e, _, _, rfl, ?_⟩)))
    rw [List.take_succ_eq_append_getElem hlt, List.map_append, List.getD_eq_getElem?_getD, List.getElem?_eq_getElem hlt]
    rfl
  · intro D h₁ tk ys hD k1 pD iD
    have hlen : (vs.take 16).length = (ms.take 16).length := (hi.take 16).length
    rw [hlen, List.take_length] at iD
    refine List_ (args_cons (wpAny_Constant_int (args_cons (wpAny_Constant_int (args_cons (wpAny_Constant_int (args_cons (wpAny_Constant_int (args_cons (wpAny_Constant_int (args_nil (wpAny_newObj_type ?_ (by show (5 : Nat) ≤ sizeLine; decide)))))))))))))
    dsimp only
    refine add_il (ws := [.int 3 tk, .int 1 (tk + 1), .int 4 (tk + 1 + 1), .int 1 (tk + 1 + 1 + 1), .int 5 (tk + 1 + 1 + 1 + 1)]) (pD.isList.push _) (newPlain _).isList (by have := iD.length; simp [sizeLine] at this ⊢; omega) ?_
    refine h _ _ _ _ (fun b o e => Heap.get?_push_of_some _ (Heap.get?_push_of_some _ (k1 b o e))) (newPlain _) (iD.append (.cons (.cons (.cons (.cons (.cons .nil))))))
end
end Mine

end
section
open PySem PySem.W PySem.W.X PyProof.Rows Builtin
set_option linter.unusedVariables false
namespace Mine
set_option maxRecDepth 100000
section
variable {w : World} {A : Around} {E : Value → Shared → Prop} {s : Shared} {env : Env} {mg mb : Str → Option Value}
theorem lawRising {p1 p2 p3 p4 p5 p6 p7 p8 p9 pa pb pc pd pe pf pg ph py spos : Pos} {k1 : Nat} {L a D : Addr} {cd : Value} {cD cS cH cW cC : Addr} {vs : List Value} {ds : List Int} {m : Str → Option Value} {g : Heap} {muts : List Addr} {Q : Flow → Shared → Prop}
    (hsw : swapsWith (.ListComp (.BinOp (.Call (.Name "sum" p1) [.Subscript (.Name "drawn" p2) (.Slice none (some (.BinOp (.Name "k" p3) .Add (.Constant (.int 1) k1 p4) p5)) none p6) p7] [] p8) .Add (.Name "k" p9) pa) [⟨.Name "k" pb, .Call (.Name "range" pc) [.Call (.Name "len" pd) [.Name "drawn" pe] [] pf] [] pg, [], 0⟩]
      { kind := .function, names := [(".0", .local), ("k", .local), ("sum", .globalImplicit), ("drawn", .free)], isGenerator := false, isCoroutine := false, more := [] } ph) (some (.Name "rising" py)) spos.line (lawEnv L a cd cD cS cH cW cC) = pure true)
    (hh : A.handled = none) (F : Fx g L s.heap m muts) (hm : ∀ a ∈ muts, a < s.heap.objs.size) (S : Sta mg mb s.heap) (hD : s.heap.IsCell cD (some (.ref D))) (hl : PlainL s.heap D vs.toArray) (hi : Ints vs ds) (hsz : vs.length < 22)
    (h : ∀ R h' tk ws, Fx g L h' (fun z => if z = "rising" then some (.ref R) else m z) muts → (∀ b o, b ≠ L → s.heap.get? b = some o → h'.get? b = some o) → PlainL h' R ws.toArray → Ints ws (risOf ds) → Q .next { s with heap := h', toks := tk }) :
    wpAny (model prog w) A (exec (.Assign [.Name "rising" py] (.ListComp (.BinOp (.Call (.Name "sum" p1) [.Subscript (.Name "drawn" p2) (.Slice none (some (.BinOp (.Name "k" p3) .Add (.Constant (.int 1) k1 p4) p5)) none p6) p7] [] p8) .Add (.Name "k" p9) pa) [⟨.Name "k" pb, .Call (.Name "range" pc) [.Call (.Name "len" pd) [.Name "drawn" pe] [] pf] [] pg, [], 0⟩]
      { kind := .function, names := [(".0", .local), ("k", .local), ("sum", .globalImplicit), ("drawn", .free)], isGenerator := false, isCoroutine := false, more := [] } ph) spos)
      (lawEnv L a cd cD cS cH cW cC)) Q E s := by
  have hlen := hi.length
  refine compIU (cl := [("drawn", cD)]) (n := vs.length) (P := fun i v => ∃ t, v = .int (0 + i : Nat) t) (fun i => (List.range i).map fun k => (ds.take (k + 1)).sum + (k : Nat)) hsw F hm (by rfl) (by rfl) (by kernel_rfl) (by decide) rfl (by decide) (by rfl) ?_ (by simp [sizeLine]; omega) (by simp) ?_ ?_
  · exact rangeLen hh S.G S.B S.b_range S.b_len (fun Q' q => lCe hD q) hl.isList (by omega)
  · refine turn0 fun C i v s₃ m₃ E' hP hi' hk hn₃ hm₃ => ?_
    obtain ⟨t, rfl⟩ := hP
    have S₃ := S.keeps hk
    have hl₃ := pl_keep hl (hk _)
    refine wpAny_BinOp (Call_ (cB S₃.G S₃.B S₃.b_sum (PyProof.Rows.callWith_builtin1 (args_cons (wpAny_Subscript_list_slice (lCe (isCell_keep hD hk) (wpAny_evalPart_none (wpAny_evalPart_some (wpAny_BinOp (cL hn₃ hm₃ (wpAny_Constant_int (add_int ⟨D, _, _, _, rfl, hl₃.isList, by simp [sizeLine]; omega, .none, .int _ _, ?_⟩))))))))))))
    have e : ((0 + i : Nat) : Int) + 1 = ((i + 1 : Nat) : Int) := by push_cast; omega
    rw [e, slicePick_upto']
    dsimp only
    have k4 : ∀ b o, s₃.heap.get? b = some o → ((s₃.heap.push { cls := .type "slice", data := .fields #[.none, .int ((i + 1 : Nat) : Int) (s₃.toks + 1), .none] }).push { cls := .type "list", data := .seq (vs.take (i + 1)).toArray }).get? b = some o := fun b o e => Heap.get?_push_of_some _ (Heap.get?_push_of_some _ e)
    have l4 := newPlain (h := s₃.heap.push { cls := .type "slice", data := .fields #[.none, .int ((i + 1 : Nat) : Int) (s₃.toks + 1), .none] }) (vs.take (i + 1)).toArray
    rw [Heap.size_push] at l4
    refine args_nil (sum_il hh l4.isList (hi.take (i + 1)) fun h' tk t' k5 => ?_)
    dsimp only
    refine cL (hn₃.keeps fun b o e => k5 b o (k4 b o e)) hm₃ (add_int ⟨⟨_, _, rfl, fun b o e => k5 b o (k4 b o e)⟩, _, _, rfl, ?_⟩)
    rw [spec_map, Nat.zero_add]
  · intro R h' tk ys _ F' k' pl iR
    refine h R h' tk ys F' k' pl ?_
    rw [hlen] at iR
    exact iR
theorem lawWays {p1 p2 p3 p4 p5 p6 p7 p8 p9 pa pb pc pd pe pf pg ph pi : Pos} {k1 k2 k3 : Nat} {L a D : Addr} {cd : Value} {cD cS cH cW cC : Addr} {vs : List Value} {ds : List Int} {Q : Value → Shared → Prop}
    (hh : A.handled = none) (hd : A.depth + 8 < recursionLimit) (S : Sta mg mb s.heap) (hD : s.heap.IsCell cD (some (.ref D))) (hl : PlainL s.heap D vs.toArray) (hi : Ints vs ds) (hsz : vs.length < 22)
    (h : ∀ R h' tk ws, (∀ b o, s.heap.get? b = some o → h'.get? b = some o) → PlainL h' R ws.toArray → Ints ws (nZ (ways ds.length)) → Q (.ref R) { s with heap := h', toks := tk }) :
    wpAny (model prog w) A (eval (.ListComp (.BinOp (.Call (.Name "len" p1) [.Subscript (.Call (.Name "_law_halves" p2) [.BinOp (.Name "k" p3) .Add (.Constant (.int 1) k1 p4) p5] [] p6) (.Constant (.int 0) k2 p7) p8] [] p9) .Sub (.Constant (.int 1) k3 pa) pb) [⟨.Name "k" pc, .Call (.Name "range" pd) [.Call (.Name "len" pe) [.Name "drawn" pf] [] pg] [] ph, [], 0⟩]
      { kind := .function, names := [(".0", .local), ("k", .local), ("len", .globalImplicit), ("_law_halves", .globalImplicit)], isGenerator := false, isCoroutine := false, more := [] } pi)
      (lawEnv L a cd cD cS cH cW cC)) Q E s := by
  have hlen := hi.length
  refine compI (cl := []) (n := vs.length) (P := fun i v => ∃ t, v = .int (0 + i : Nat) t) (fun i => (List.range i).map fun k => ((halves (k + 1)).1.length : Int) - 1) (by kernel_rfl) (by decide) rfl (by decide) (by rfl) ?_ (by simp [sizeLine]; omega) (by simp) ?_ ?_
  · exact rangeLen hh S.G S.B S.b_range S.b_len (fun Q' q => lCe hD q) hl.isList (by omega)
  · refine turn0 fun C i v s₃ m₃ E' hP hi' hk hn₃ hm₃ => ?_
    obtain ⟨t, rfl⟩ := hP
    have S₃ := S.keeps hk
    obtain ⟨o', pm', cd', doc', e', d', c'⟩ := S₃.f_halves
    have e : ((0 + i : Nat) : Int) + 1 = ((i + 1 : Nat) : Int) := by push_cast; omega
    refine wpAny_BinOp (Call_ (cB S₃.G S₃.B S₃.b_len (PyProof.Rows.callWith_builtin1 (args_cons (Subscript_ (Call_ (cG S₃.G S₃.g_halves (callWith_def d' (args_cons (wpAny_BinOp (cL hn₃ hm₃ (wpAny_Constant_int (add_int (args_nil ⟨e', ?_⟩))))))))))))))
    rw [e]
    refine halves1 (g := hideAll s₃.heap []) hd (S₃.keeps fun b o e => hideAll_get _ e (by simp)) (has_hide s₃.heap []) (by omega) ?_
    intro h' tk T D' ws t' H' eT pD iD _ _
    have k4 : ∀ b o, s₃.heap.get? b = some o → h'.get? b = some o := fun b o e => H'.keep _ _ (hideAll_get _ e (by simp))
    have hT : IsTup h' T #[.ref D', .int (halves (i + 1)).2 t'] := ⟨_, eT, rfl, _, rfl⟩
    refine wpAny_Constant_int (tail_any hT.typeIs slot_tuple_getitem.lookup (getItem_tuple (j := 0) hT (by decide) (by decide) (by rfl) rfl ?_) (by with_unfolding_all rfl))
    dsimp only
    refine args_nil (Calls.call_len_list pD.isList ?_ (wpAny_Constant_int (sub_int ⟨⟨_, _, rfl, k4⟩, _, _, rfl, ?_⟩)))
    · have := halves_small (i + 1) (by omega)
      have := iD.length
      simp [nI] at this ⊢; omega
    · rw [spec_map]
      have := iD.length
      simp [nI] at this ⊢; omega
  · intro R h' tk ys _ k' pl iR
    refine h R h' tk ys k' pl ?_
    have e : (List.range vs.length).map (fun k => ((halves (k + 1)).1.length : Int) - 1) = nZ (ways ds.length) := by
      rw [hlen]
      apply List.ext_getElem
      · simp [nZ, ways]
      · intro j h1 h2
        have hj : j < ds.length := by simpa using h1
        have := ways_get hj (by omega)
        rw [List.getD_eq_getElem?_getD, List.getElem?_eq_getElem h2] at this
        simp only [List.getElem_map, List.getElem_range]
        exact this.symm
    rw [← e]; exact iR
end
end Mine

end
section
open PySem PySem.W PySem.W.X PyProof.Rows Builtin
set_option linter.unusedVariables false
namespace Mine
set_option maxRecDepth 100000
section
variable {w : World} {A : Around} {E : Value → Shared → Prop} {s : Shared} {env : Env} {mg mb : Str → Option Value}
theorem item_int {value slice : Expr} {a : Addr} {vs : List Value} {ns : List Int} {k : Nat} {u : Tok} {Q : Value → Shared → Prop} (hl : PlainL s.heap a vs.toArray) (hi : Ints vs ns) (hk : k < ns.length) (hs' : ns.length < 1000)
    (h : ∀ t, Q (.int (ns.getD k 0) t) s) (hs : subscripted slice false (.ref a) (.int (k : Nat) u) = operate [.ref a, .int (k : Nat) u] (getItem (.ref a) (.int (k : Nat) u)) := by with_unfolding_all rfl) :
    wpAny (model prog w) A (subscriptTail value slice (.ref a) (.int (k : Nat) u)) Q E s := by
  obtain ⟨t, e⟩ := getD_val hi hk
  exact item_list hl.isList (by omega) (by omega) (by rw [Int.toNat_natCast]; simpa using e) (h t) hs
theorem rangeLen1 {p0 p1 p2 p3 p4 p5 : Pos} {k1 : Nat} {x : Str} {l : Addr} {vs : List Value} (hh : A.handled = none) (hg : s.heap.Ns mainGlobals mg) (hb : s.heap.Ns builtinsNs mb) (br : mg "range" = none ∧ mb "range" = some (.type "range")) (bl : mg "len" = none ∧ mb "len" = some (.builtin "len"))
    (hx : ∀ (s' : Shared) (Q' : Value → Shared → Prop), s'.heap = s.heap → Q' (.ref l) s' → wpAny (model prog w) A (eval (.Name x p3) env) Q' E s') (hl : s.heap.IsList l vs.toArray) (hn : vs.length < 1000) (h1 : 1 ≤ vs.length)
    (hk : env.scope.kind = .function := by rfl) (hx1 : env.kindOf "range" = some .globalImplicit := by rfl) (hx2 : env.kindOf "len" = some .globalImplicit := by rfl) (hgl : env.globals = mainGlobals := by rfl) (hbu : env.builtins = builtinsNs := by rfl) :
    wpAny (model prog w) A (eval (.Call (.Name "range" p1) [.Constant (.int 1) k1 p0, .Call (.Name "len" p2) [.Name x p3] [] p4] [] p5) env) (fun xv s₁ => wpAny (model prog w) A (pyIter xv) (Src w A s (vs.length - 1) (fun i v => ∃ t, v = .int (1 + i : Nat) t)) E s₁) E s := by
  have hse : starEach [Expr.Call (.Name "len" p2) [.Name x p3] [] p4] env = [(false, eval (.Call (.Name "len" p2) [.Name x p3] [] p4) env)] := rfl
  refine Call_ (cB hg hb br (PyProof.Rows.callWith_type1 (args_cons (wpAny_Constant_int (args_cons (Call_ (cB (by exact hg) (by exact hb) bl (PyProof.Rows.callWith_builtin1 (args_cons (hx _ _ rfl (args_nil (Calls.call_len_list (by exact hl) (by simp; omega) ?_)))) ) hk hx2 hgl hbu)) hse))) rfl (by show ((backTo p5 (starEach [_] env)).any (·.1)) = false; rw [hse]; rfl)) hk hx1 hgl hbu)
  refine args_nil (call_range_2 ?_)
  dsimp only
  refine src_range (lo := 1) (n := vs.length - 1) hh (grew_mk fun b o e => Heap.get?_push_of_some _ e) ?_ (t := s.toks) (u := s.toks + 1 + 1) (v := s.toks + 1 + 1 + 1) ?_ (by omega)
  · dsimp only; rw [Heap.size_push]; exact Nat.le_succ _
  · have e := IsRange.new s.heap 1 (vs.length : Nat) 1 s.toks (s.toks + 1 + 1) (s.toks + 1 + 1 + 1)
    have e2 : 1 + (vs.length - 1) = vs.length := by omega
    rw [e2]
    simpa using e
theorem min_val (x : Int) (t u : Tok) : (if Flt.ltV (.int x u) (.int 1 t) = true then Value.int x u else .int 1 t) = .int (if x < 1 then x else 1) (if x < 1 then u else t) := by
  by_cases q : x < 1
  · simp [Flt.ltV, q]
  · simp [Flt.ltV, q]
theorem minOne {p1 p2 p3 : Pos} {k1 : Nat} {e : Expr} {x : Int} {Q : Value → Shared → Prop} (hh : A.handled = none) (hg : s.heap.Ns mainGlobals mg) (hb : s.heap.Ns builtinsNs mb) (bm : mg "min" = none ∧ mb "min" = some (.builtin "min"))
    (he : ∀ (s' : Shared) (Q' : Value → Shared → Prop), s'.heap = s.heap → (∀ u, Q' (.int x u) s') → wpAny (model prog w) A (eval e env) Q' E s')
    (h : ∀ h' tk t, (∀ b o, s.heap.get? b = some o → h'.get? b = some o) → Q (.int (if x < 1 then x else 1) t) { s with heap := h', toks := tk })
    (hse : starEach [e] env = [(false, eval e env)] := by rfl)
    (hk : env.scope.kind = .function := by rfl) (hx1 : env.kindOf "min" = some .globalImplicit := by rfl) (hgl : env.globals = mainGlobals := by rfl) (hbu : env.builtins = builtinsNs := by rfl) :
    wpAny (model prog w) A (eval (.Call (.Name "min" p1) [.Constant (.int 1) k1 p2, e] [] p3) env) Q E s := by
  refine Call_ (cB hg hb bm (PyProof.Rows.callWith_builtin1 (args_cons (wpAny_Constant_int (args_cons (he _ _ rfl fun u => args_nil (Flt.min_two_num hh (.int _ _) (.int _ _) fun h' tk k' => ?_)) hse))) rfl (by
    show ((backTo p3 (starEach [e] env)).any (·.1)) = false
    rw [hse]; rfl)) hk hx1 hgl hbu)
  rw [min_val]
  exact h h' tk _ k'
theorem lawHeapOk {p1 p2 p3 p4 p5 p6 p7 p8 p9 pa pb pc pd pe pf pg ph pi pj pk : Pos} {k1 k2 k3 : Nat} {L a H : Addr} {cd : Value} {cD cS cH cW cC : Addr} {vs : List Value} {ns : List Int} {Q : Value → Shared → Prop}
    (hh : A.handled = none) (S : Sta mg mb s.heap) (hH : s.heap.IsCell cH (some (.ref H))) (hl : PlainL s.heap H vs.toArray) (hi : Ints vs ns) (hsz : ns.length < 22) (h1 : 1 ≤ ns.length)
    (hp : ∀ k, 0 < k → k < ns.length → ¬ ns.getD k 0 < ns.getD ((k - 1) / 2) 0)
    (h : ∀ R h' tk ws, (∀ b o, s.heap.get? b = some o → h'.get? b = some o) → PlainL h' R ws.toArray → Ints ws [] → Q (.ref R) { s with heap := h', toks := tk }) :
    wpAny (model prog w) A (eval (.ListComp (.Name "k" p1) [⟨.Name "k" p2, .Call (.Name "range" p3) [.Constant (.int 1) k1 p4, .Call (.Name "len" p5) [.Name "heap" p6] [] p7] [] p8,
        [.Compare (.Subscript (.Name "heap" p9) (.Name "k" pa) pb) [.Lt] [.Subscript (.Name "heap" pc) (.BinOp (.BinOp (.Name "k" pd) .Sub (.Constant (.int 1) k2 pe) pf) .FloorDiv (.Constant (.int 2) k3 pg) ph) pi] pj], 0⟩]
      { kind := .function, names := [(".0", .local), ("k", .local), ("heap", .free)], isGenerator := false, isCoroutine := false, more := [] } pk)
      (lawEnv L a cd cD cS cH cW cC)) Q E s := by
  have hlen := hi.length
  refine compI (cl := [("heap", cH)]) (n := ns.length - 1) (P := fun i v => ∃ t, v = .int (1 + i : Nat) t) (fun i => []) (by kernel_rfl) (by decide) rfl (by decide) (by rfl) ?_ (by simp [sizeLine]; omega) rfl ?_ ?_
  · have e : ns.length - 1 = vs.length - 1 := by omega
    rw [e]
    exact rangeLen1 hh S.G S.B S.b_range S.b_len (fun s' Q' e q => lCe (e ▸ hH) q) hl.isList (by omega) (by omega)
  · intro C i v s₃ m₃ E' hP hi' hk hn₃ hm₃
    obtain ⟨t, rfl⟩ := hP
    have hl₃ := pl_keep hl (hk _)
    have hH₃ := isCell_keep hH hk
    have e : (((1 + i : Nat) : Int) - 1).fdiv 2 = ((i / 2 : Nat) : Int) := by rw [Int.fdiv_eq_ediv_of_nonneg _ (by decide)]; omega
    refine wpAny_tests_one (wpAny_isTrue_Compare1 (Subscript_ (lCe hH₃ (cL hn₃ hm₃ (item_int hl₃ hi (by omega) (by omega) fun t1 => Subscript_ (lCe hH₃ (wpAny_BinOp (wpAny_BinOp (cL hn₃ hm₃ (wpAny_Constant_int (sub_int (wpAny_Constant_int (floordiv_int (by decide) ?_ (Or.inl (PyProof.noPylong_small (by omega))))))))))))))))
    rw [e]
    refine item_int (by exact hl₃) hi (by omega) (by omega) fun t2 => lt_int (wpAny_truthy_bool ?_)
    have q := hp (1 + i) (by omega) (by omega)
    rw [show (1 + i - 1) / 2 = i / 2 by omega] at q
    rw [decide_eq_false q]
    exact ⟨⟨_, _, rfl, fun _ _ e => e⟩, by rw [if_neg (by decide)]⟩
  · intro R h' tk ys _ k' pl iR
    exact h R h' tk ys k' pl iR
theorem lawLast {p1 p2 p3 p5 p6 p7 p8 p9 pa pb pc pd pe pf pg ph pi pj pk pl pm pn : Pos} {k1 : Nat} {L a W C : Addr} {cd : Value} {cD cS cH cW cC : Addr} {vs us : List Value} {ws cs : List Int} {Q : Value → Shared → Prop}
    (hh : A.handled = none) (S : Sta mg mb s.heap) (hW : s.heap.IsCell cW (some (.ref W))) (hC : s.heap.IsCell cC (some (.ref C))) (hl : PlainL s.heap W vs.toArray) (hi : Ints vs ws) (hl2 : PlainL s.heap C us.toArray) (hi2 : Ints us cs) (hsz : ws.length < 22) (hle : cs.length = ws.length)
    (hp : ∀ k, k < ws.length → (if ws.getD k 0 < 1 then ws.getD k 0 else 1) ≤ cs.getD k 0 ∧ cs.getD k 0 ≤ ws.getD k 0)
    (h : ∀ R h' tk zs, (∀ b o, s.heap.get? b = some o → h'.get? b = some o) → PlainL h' R zs.toArray → Ints zs [] → Q (.ref R) { s with heap := h', toks := tk }) :
    wpAny (model prog w) A (eval (.ListComp (.Name "k" p1) [⟨.Name "k" p2, .Call (.Name "range" p3) [.Call (.Name "len" p5) [.Name "ways" p6] [] p7] [] p8,
        [.UnaryOp .Not (.Compare (.Call (.Name "min" p9) [.Constant (.int 1) k1 pa, .Subscript (.Name "ways" pb) (.Name "k" pc) pd] [] pe) [.LtE, .LtE] [.Subscript (.Name "counts" pf) (.Name "k" pg) ph, .Subscript (.Name "ways" pi) (.Name "k" pj) pk] pl) pm], 0⟩]
      { kind := .function, names := [(".0", .local), ("k", .local), ("min", .globalImplicit), ("counts", .free), ("ways", .free)], isGenerator := false, isCoroutine := false, more := [] } pn)
      (lawEnv L a cd cD cS cH cW cC)) Q E s := by
  have hlen := hi.length
  refine compI (cl := [("ways", cW), ("counts", cC)]) (n := vs.length) (P := fun i v => ∃ t, v = .int (0 + i : Nat) t) (fun i => []) (by kernel_rfl) (by decide) rfl (by decide) (by rfl) ?_ (by simp [sizeLine]; omega) rfl ?_ ?_
  · exact rangeLen hh S.G S.B S.b_range S.b_len (fun Q' q => lCe hW q) hl.isList (by omega)
  · intro Cc i v s₃ m₃ E' hP hi' hk hn₃ hm₃
    obtain ⟨t, rfl⟩ := hP
    have S₃ := S.keeps hk
    have hl₃ := pl_keep hl (hk _)
    have hl2₃ := pl_keep hl2 (hk _)
    have hW₃ := isCell_keep hW hk
    have hC₃ := isCell_keep hC hk
    refine wpAny_tests_one (isTrue_not (isTrue_chain (minOne (x := ws.getD (0 + i) 0) hh S₃.G S₃.B S₃.b_min (fun s' Q' e q => Subscript_ (lCe (e ▸ hW₃) (cL (e ▸ hn₃) hm₃ (item_int (e ▸ hl₃) hi (by omega) (by omega) q)))) fun h' tk tm k' => ?_)))
    obtain ⟨q1, q2⟩ := hp (0 + i) (by omega)
    refine test_link (Subscript_ (lCe (isCell_keep hC₃ k') (cL (hn₃.keeps k') hm₃ (item_int (pl_keep hl2₃ (k' _)) hi2 (by omega) (by omega) fun t2 => le_int (wpAny_truthy_bool ?_)))))
    rw [decide_eq_true q1, if_pos rfl]
    refine test_last (Subscript_ (lCe (isCell_keep hW₃ k') (cL (hn₃.keeps k') hm₃ (item_int (pl_keep hl₃ (k' _)) hi (by omega) (by omega) fun t3 => le_int (wpAny_truthy_bool ?_)))))
    rw [decide_eq_true q2]
    exact ⟨⟨_, _, rfl, k'⟩, by rw [if_neg (by decide)]⟩
  · intro R h' tk ys _ k' pl iR
    exact h R h' tk ys k' pl iR
end
end Mine

end
section
open PySem PySem.W PySem.W.X PyProof.Rows Builtin
set_option linter.unusedVariables false
namespace Mine
set_option maxRecDepth 100000
noncomputable abbrev heldSc1 : Scope := { kind := .function, names := [(".0", .local), ("k", .cell), ("len", .globalImplicit), ("sizes", .free)], isGenerator := false, isCoroutine := false, more := [] }
noncomputable abbrev heldSc2 : Scope := { kind := .function, names := [(".0", .local), ("size", .local), ("k", .free)], isGenerator := false, isCoroutine := false, more := [] }
section
variable {w : World} {A : Around} {E : Value → Shared → Prop} {s : Shared} {env : Env} {mg mb : Str → Option Value}
theorem newEnvK {gl : Addr} {cl : List (Str × Addr)} {qual : Str} {Q : Env → Shared → Prop}
    (hQ : ∀ h', h'.Ns s.heap.objs.size (fun _ => none) → h'.IsCell (s.heap.objs.size + 1) none → (∀ b o, s.heap.get? b = some o → h'.get? b = some o) →
      Q { scope := heldSc1, locals := s.heap.objs.size, globals := gl, cells := ("k", s.heap.objs.size + 1) :: cl, qual, func := none, code := env.code, frame := env.frame, builtins := env.builtins } { s with heap := h' }) :
    wpAny (model prog w) A (newFunctionEnv heldSc1 gl cl [] qual none .none (some env)) Q E s := by
  simp only [newFunctionEnv, Option.isSome_some, if_true]
  refine wpAny_bind (wpAny_alloc ?_)
  have e1 : ((NameKind.local == NameKind.cell) = true) = False := by decide
  have e2 : ((NameKind.cell == NameKind.cell) = true) = True := by decide
  have e3 : ((NameKind.globalImplicit == NameKind.cell) = true) = False := by decide
  have e4 : ((NameKind.free == NameKind.cell) = true) = False := by decide
  simp only [List.forIn_cons, List.forIn_nil, e1, e2, e3, e4, if_true, if_false]
  refine wpAny_bind (wpAny_bind (wpAny_pure ?_))
  dsimp only
  refine wpAny_bind (wpAny_bind (wpAny_alloc (wpAny_pure ?_)))
  dsimp only
  refine wpAny_bind (wpAny_pure ?_)
  dsimp only
  refine wpAny_bind (wpAny_pure ?_)
  dsimp only
  refine wpAny_pure (wpAny_bind (wpAny_pure (wpAny_pure ?_)))
  have q := hQ ((s.heap.push { cls := .type "dict", data := .dict #[] }).push { cls := .type "cell", data := .cell none }) ?_ ?_ ?_
  · rw [Heap.size_push]; exact q
  · exact (Heap.Ns.new s.heap (.type "dict")).push _
  · have e := Heap.get?_push_size (s.heap.push { cls := .type "dict", data := .dict #[] }) (o := { cls := .type "cell", data := .cell none }) rfl
    rw [Heap.size_push] at e
    exact ⟨_, e, rfl⟩
  · exact fun b o e => Heap.get?_push_of_some _ (Heap.get?_push_of_some _ e)
theorem lawHeldCmp {p1 p2 p3 p4 p5 p6 p7 p8 p9 pa pb pc pd pe pf pg : Pos} {L a D S0 : Addr} {cd : Value} {cD cS cH cW cC : Addr} {vs us : List Value} {ds ss : List Int} {Q : Value → Shared → Prop}
    (hh : A.handled = none) (S : Sta mg mb s.heap) (hD : s.heap.IsCell cD (some (.ref D))) (hl : PlainL s.heap D vs.toArray) (hi : Ints vs ds) (hsz : vs.length < 22)
    (hS : s.heap.IsCell cS (some (.ref S0))) (hl2 : PlainL s.heap S0 us.toArray) (hi2 : Ints us ss) (hsz2 : us.length < 1000)
    (h : ∀ R h' tk ws, (∀ b o, s.heap.get? b = some o → h'.get? b = some o) → PlainL h' R ws.toArray → Ints ws ((List.range ds.length).map fun (k : Nat) => ((ss.filter fun z => decide ((k : Int) < z)).length : Int)) → Q (.ref R) { s with heap := h', toks := tk }) :
    wpAny (model prog w) A (eval (.ListComp (.Call (.Name "len" p1) [.ListComp (.Name "size" p2) [⟨.Name "size" p3, .Name "sizes" p4, [.Compare (.Name "size" p5) [.Gt] [.Name "k" p6] p7], 0⟩] heldSc2 p8] [] p9)
      [⟨.Name "k" pa, .Call (.Name "range" pb) [.Call (.Name "len" pc) [.Name "drawn" pd] [] pe] [] pf, [], 0⟩] heldSc1 pg)
      (lawEnv L a cd cD cS cH cW cC)) Q E s := by
  have hlen := hi.length
  rw [eval_ListComp]
  refine wpAny_comprehension_free (use := none) (cl := [("sizes", cS)]) rfl (by intro _; rfl) (by kernel_rfl) rfl (by decide) (wpAny_mono (rangeLen (vs := vs) hh S.G S.B S.b_range S.b_len (fun Q' q => lCe hD q) hl.isList (by omega)) (fun xv s₁ h₁ => wpAny_mono h₁ (fun it s₂ h₂ => ?_) fun _ _ e => e) fun _ _ e => e)
  obtain ⟨I, fp, wr, St, rfl, W, hst, hfp, hwr, hg⟩ := h₂
  have hk2 := hg.keep
  obtain ⟨h₂, tk₂, rfl, _⟩ := hg
  dsimp only at hst hfp hwr hk2
  refine wpAny_newObj_type (newEnvK fun h₁ hns₁ hcell₁ k₁ => ?_)
  dsimp only at hns₁ hcell₁ k₁ ⊢
  have sz1 : (h₂.push { cls := .type "list", dict := none, data := .seq ([] : List Value).toArray }).objs.size = h₂.objs.size + 1 := Heap.size_push ..
  have hacc : h₁.PlainList h₂.objs.size #[] := ⟨_, k₁ _ _ (Heap.get?_push_size _ rfl)⟩
  rw [sz1] at hns₁ hcell₁ ⊢
  have old : ∀ b o, h₂.get? b = some o → h₁.get? b = some o := fun b o e => k₁ b o (Heap.get?_push_of_some _ e)
  generalize hzz : h₂.objs.size = z at *
  have low : ∀ b, b < z → b ≠ z ∧ b ≠ z + 1 ∧ b ≠ z + 1 + 1 := fun b hb => ⟨by omega, by omega, by omega⟩
  have n1 : z ≠ z + 1 := Nat.ne_of_lt (Nat.lt_succ_self _)
  have n3 : z + 1 ≠ z + 1 + 1 := Nat.ne_of_lt (Nat.lt_succ_self _)
  have n2 : z ≠ z + 1 + 1 := Nat.ne_of_lt (Nat.lt_succ_of_lt (Nat.lt_succ_self _))
  have sl : ∀ b o, s.heap.get? b = some o → b < z := fun b o e => hzz ▸ Heap.lt_size (hk2 b o e)
  have hwf : ∀ b ∈ wr, b < z := fun b hb => (hwr b hb).2
  have hst₁ : St 0 h₁ := W.frame _ _ _ hst fun b _ o e => old b o e
  have loop : ∀ s₃ : Shared, s₃ = { s with heap := h₁, toks := tk₂ } →
      codeAny (model prog w) A (.compLoop (.ListComp (.Call (.Name "len" p1) [.ListComp (.Name "size" p2) [⟨.Name "size" p3, .Name "sizes" p4, [.Compare (.Name "size" p5) [.Gt] [.Name "k" p6] p7], 0⟩] heldSc2 p8] [] p9)
      [⟨.Name "k" pa, .Call (.Name "range" pb) [.Call (.Name "len" pc) [.Name "drawn" pd] [] pe] [] pf, [], 0⟩] heldSc1 pg) 0 (.ref I) (.ref z) (compEnvC heldSc1 [("k", z + 1 + 1), ("sizes", cS)] (z + 1) (lawEnv L a cd cD cS cH cW cC)))
        (compPost (model prog w) A E none Q (.ref z) (z + 1)) s₃ := by
    rintro s₃ rfl
    refine codeAny_compLoop_tests
      (fun k s' => ∃ h' tk i ys m', s' = { s with heap := h', toks := tk } ∧ i ≤ vs.length ∧ k = vs.length + 1 - i ∧ ys.length = i ∧ St i h' ∧ h'.PlainList z ys.toArray ∧ h'.Ns (z + 1) m' ∧ (∃ v, h'.IsCell (z + 1 + 1) v) ∧
        Ints ys ((List.range i).map fun (k : Nat) => ((ss.filter fun z => decide ((k : Int) < z)).length : Int)) ∧ ∀ b o, s.heap.get? b = some o → h'.get? b = some o) ?_ (vs.length + 1)
      ⟨h₁, _, 0, [], _, rfl, Nat.zero_le _, rfl, rfl, hst₁, hacc, hns₁, ⟨_, hcell₁⟩, .nil, fun b o e => old b o (hk2 b o e)⟩
    intro k s' hI9
    refine hideQ fun Qa EQa hQa => ?_
    obtain ⟨h', tk, i, ys, m', rfl, hii, rfl, hyl, hst', hacc', hn', ⟨cv, hcv⟩, hI', hk'⟩ := hI9
    by_cases hlt : i < vs.length
    · refine W.item i _ _ _ hlt hst' fun v h₂' tk₂' hPv hst₂ hk₂ => hQa _ _ ?_
      obtain ⟨t, rfl⟩ := hPv
      dsimp only at hst₂ hk₂ ⊢
      have wn : ∀ b, z ≤ b → b ∉ wr := fun b hb q => absurd (hwf b q) (Nat.not_lt.mpr hb)
      have hcv₂ : h₂'.IsCell (z + 1 + 1) cv := let ⟨o, e, d⟩ := hcv; ⟨o, hk₂ _ _ (wn _ (by omega)) e, d⟩
      refine wpAny_assign_Name (wpAny_storeName_cell (c := z + 1 + 1) (by rfl) (by rfl) (by rfl) hcv₂ ?_)
      intro h₃ cK₃ hs₃
      dsimp only at cK₃ hs₃ ⊢
      have up₃ : ∀ b o, s.heap.get? b = some o → h₃.get? b = some o := fun b o e => (hs₃.2 b (low b (sl b o e)).2.2).trans (hk₂ b o (fun q => by have := (hwr b q).1; rw [e] at this; cases this) (hk' b o e))
      have S₃ := S.keeps up₃
      refine wpAny_tests_nil ?_
      rw [if_pos rfl]
      refine Call_ (cB S₃.G S₃.B S₃.b_len (PyProof.Rows.callWith_builtin1 (args_cons (compI (cl := [("k", z + 1 + 1)]) (n := us.length) (P := fun j v => us[j]? = some v) (fun j => (ss.take j).filter fun z => decide ((i : Int) < z)) (by kernel_rfl) (by decide) rfl (by decide) (by rfl) ?_ (by simp [sizeLine]; omega) (by simp) ?_ ?_))))
      · exact lCe (isCell_keep hS up₃) (src_list hh (.refl _) (Nat.le_refl _) (pl_keep hl2 (up₃ _)).isList)
      · intro C j v s₄ m₄ E' hP hj hk4 hn₄ hm₄
        obtain ⟨tv, rfl⟩ := hi2.val hP
        have hjs : j < ss.length := by rw [← hi2.length]; exact hj
        have et : (ss.take (j + 1)).filter (fun z => decide ((i : Int) < z)) = (ss.take j).filter (fun z => decide ((i : Int) < z)) ++ (if (i : Int) < ss.getD j 0 then [ss.getD j 0] else []) := by
          rw [List.take_succ_eq_append_getElem hjs, List.filter_append, List.getD_eq_getElem?_getD, List.getElem?_eq_getElem hjs]
          congr 1
          simp only [Option.getD_some, List.filter_cons, List.filter_nil, decide_eq_true_eq]
        refine wpAny_tests_one (wpAny_isTrue_Compare1 (cL hn₄ hm₄ (lCe (isCell_keep cK₃ hk4) (gt_int (wpAny_truthy_bool ⟨grew_mk fun _ _ e => e, ?_⟩)))))
        rw [Nat.zero_add]
        by_cases hc : (i : Int) < ss.getD j 0
        · rw [decide_eq_true hc, if_pos rfl]
          refine cL hn₄ hm₄ ⟨grew_mk fun _ _ e => e, _, _, rfl, ?_⟩
          show (ss.take (j + 1)).filter (fun z => decide ((i : Int) < z)) = _
          rw [et, if_pos hc]
        · rw [decide_eq_false hc, if_neg (by decide)]
          show (ss.take (j + 1)).filter (fun z => decide ((i : Int) < z)) = _
          rw [et, if_neg hc, List.append_nil]
      · intro D' h₄ tk₄ zs _ k4 pD' iD'
        dsimp only at k4 ⊢
        have zl := iD'.length
        rw [hi2.length, List.take_length] at zl
        have zle := List.length_filter_le (fun z => decide ((i : Int) < z)) ss
        have hl2' := hi2.length
        refine args_nil (Calls.call_len_list pD'.isList (by simp; omega) ?_)
        dsimp only
        have hacc₄ : h₄.PlainList z ys.toArray := hacc'.at fun o e => k4 _ o ((hs₃.2 z n2).trans (hk₂ z o (wn _ (Nat.le_refl _)) e))
        refine wpAny_list_append_plain (hsz := by rw [List.size_toArray]; simp [sizeLine]; omega) hacc₄ fun h₅ hl₅ hs₅ => ?_
        dsimp only at hl₅ hs₅ ⊢
        rw [List.push_toArray] at hl₅
        have hst₃ : St (i + 1) h₃ := W.frame _ _ _ hst₂ fun b hb o e => (hs₃.2 b (low b (hfp b hb)).2.2).trans e
        refine ⟨vs.length + 1 - (i + 1), by omega, h₅, _, i + 1, ys ++ [_], m', rfl, hlt, rfl, by simp [hyl], W.frame _ _ _ (W.frame _ _ _ hst₃ fun b _ o e => k4 b o e) fun b hb o e => (hs₅.2 b (low b (hfp b hb)).1).trans e, hl₅, ?_, ⟨some (.int (0 + i : Nat) t), ?_⟩, ?_, fun b o e => (hs₅.2 b (low b (sl b o e)).1).trans (k4 b o (up₃ b o e))⟩
        · exact hn'.at' fun o e => (hs₅.2 _ (Ne.symm n1)).trans (k4 _ o ((hs₃.2 _ n3).trans (hk₂ _ o (wn _ (Nat.le_succ _)) e)))
        · exact let ⟨o, e, d⟩ := cK₃; ⟨o, (hs₅.2 _ (Ne.symm n2)).trans (k4 _ _ e), d⟩
        · rw [spec_map]
          have e2 : (zs.toArray.size : Int) = ((ss.filter fun z => decide ((i : Int) < z)).length : Int) := by simp [zl]
          rw [e2]
          exact hI'.snoc
    · obtain rfl : i = vs.length := Nat.le_antisymm hii (Nat.not_lt.mp hlt)
      refine W.done _ _ _ hst' fun h₂' tk₂' hk₂ => hQa _ _ ?_
      dsimp only at hk₂ ⊢
      have wn : ∀ b, z ≤ b → b ∉ wr := fun b hb q => absurd (hwf b q) (Nat.not_lt.mpr hb)
      refine ⟨m', hn'.at' fun o e => hk₂ _ o (wn _ (by omega)) e, fun h₃ hs₃ => ?_⟩
      rw [hlen] at hI'
      refine h z h₃ _ ys (fun b o e => (hs₃.2 b (low b (sl b o e)).2.1).trans (hk₂ b o (fun q => by have := (hwr b q).1; rw [e] at this; cases this) (hk' b o e))) (plainL_of ((hacc'.at fun o e => hk₂ _ o (wn _ (Nat.le_refl _)) e).at fun o e => (hs₃.2 _ n1).trans e)) hI'
  exact codeAny_compStart_list (loop _ rfl) (W.self 0 _ _ _ hst₁ (loop _ rfl))
end
end Mine

end
section
open PySem PySem.W PySem.W.X PyProof.Rows Builtin
set_option linter.unusedVariables false
namespace Mine
set_option maxRecDepth 100000
noncomputable def IL (h : Heap) (p : Addr × List Int) : Prop := ∃ vs, PlainL h p.1 vs.toArray ∧ Ints vs p.2
noncomputable def AL (h : Heap) (p : Addr × List (Int × Int)) : Prop := ∃ qs zz, PlainL h p.1 qs.toArray ∧ Pairs zz h qs p.2
noncomputable def KLs (h h' : Heap) : Prop := ∀ b o vs n, o.data = .seq vs n → h.get? b = some o → h'.get? b = some o
theorem IL.ls {h h' : Heap} {p : Addr × List Int} (x : IL h p) (k : KLs h h') : IL h' p :=
  let ⟨vs, pl, i⟩ := x; ⟨vs, pl_keep pl fun o e => by
    obtain ⟨o1, n1, x1, _, _, x4⟩ := pl
    rw [e] at x1; cases x1
    exact k _ _ _ _ x4 e, i⟩
theorem AL.ls {h h' : Heap} {p : Addr × List (Int × Int)} (x : AL h p) (k : KLs h h') : AL h' p :=
  let ⟨vs, zz, pl, i⟩ := x; ⟨vs, zz, pl_keep pl fun o e => by
    obtain ⟨o1, n1, x1, _, _, x4⟩ := pl
    rw [e] at x1; cases x1
    exact k _ _ _ _ x4 e, i.mono fun a i t j u hl => isList_keep hl fun o e => by
      obtain ⟨o1, x1, _, n1, x4⟩ := hl
      rw [e] at x1; cases x1
      exact k _ _ _ _ x4 e⟩
/-- law on its way -/
structure LW (g : Heap) (L cD cS cH cW cC : Addr) (h : Heap) (m : Str → Option Value) (vD vS vH vW vC : Option Value) (ls : List (Addr × List Int)) (as : List (Addr × List (Int × Int))) : Prop where
  F : Fx g L h m [76, 90]
  T : ClsTab h
  T2 : TabAt h 90 K1 []
  D : h.IsCell cD vD
  S : h.IsCell cS vS
  H : h.IsCell cH vH
  W : h.IsCell cW vW
  C : h.IsCell cC vC
  ls : ∀ p ∈ ls, IL h p
  as : ∀ p ∈ as, AL h p
/-- the cells stand apart -/
structure Ap (g : Heap) (L cD cS cH cW cC : Addr) : Prop where
  nL : ∀ c ∈ [cD, cS, cH, cW, cC], c ≠ L ∧ g.get? c = none
  pw : [cD, cS, cH, cW, cC].Pairwise (· ≠ ·)
section
variable {g h h' : Heap} {L cD cS cH cW cC : Addr} {m : Str → Option Value} {vD vS vH vW vC : Option Value} {ls ls' : List (Addr × List Int)} {as as' : List (Addr × List (Int × Int))}
theorem cell_ne {c : Addr} {v : Option Value} (x : h.IsCell c v) (T : ClsTab h) (T2 : TabAt h 90 K1 []) : c ≠ 76 ∧ c ≠ 90 := by
  obtain ⟨oc, a1, a2⟩ := x
  constructor
  · rintro rfl; obtain ⟨ps, q, _⟩ := T; rw [q] at a1; cases a1; cases a2
  · rintro rfl; obtain ⟨ps, q, _⟩ := T2; rw [q] at a1; cases a1; cases a2
theorem kls_tab (T : ClsTab h) (T2 : TabAt h 90 K1 []) (k : ∀ b o, b ≠ 76 → b ≠ 90 → h.get? b = some o → h'.get? b = some o) : KLs h h' := fun b o vs n d e => k b o
  (by rintro rfl; obtain ⟨ps, q, _⟩ := T; rw [q] at e; cases e; cases d) (by rintro rfl; obtain ⟨ps, q, _⟩ := T2; rw [q] at e; cases e; cases d) e
/-- what only grows, but for the tables -/
theorem LW.grow (x : LW g L cD cS cH cW cC h m vD vS vH vW vC ls as) (k : ∀ b o, b ≠ 76 → b ≠ 90 → h.get? b = some o → h'.get? b = some o) (T : ClsTab h') (T2 : TabAt h' 90 K1 []) : LW g L cD cS cH cW cC h' m vD vS vH vW vC ls as := by
  have kc : ∀ {c : Addr} {v : Option Value}, h.IsCell c v → h'.IsCell c v := fun {c v} y => by
    have q := cell_ne y x.T x.T2
    obtain ⟨o, e, d⟩ := y
    exact ⟨o, k _ _ q.1 q.2 e, d⟩
  have kl := kls_tab x.T x.T2 k
  exact ⟨x.F.many (sub := [76, 90]) (by repeat' (first | exact fa0 | exact .head _ | refine fa1 ?_ ?_ | refine .tail _ ?_)) fun b o q e => k b o (fun z => q (by simp [z])) (fun z => q (by simp [z])) e, T, T2, kc x.D, kc x.S, kc x.H, kc x.W, kc x.C, fun p hp => (x.ls p hp).ls kl, fun p hp => (x.as p hp).ls kl⟩
theorem LW.up (x : LW g L cD cS cH cW cC h m vD vS vH vW vC ls as) (k : ∀ b o, h.get? b = some o → h'.get? b = some o) : LW g L cD cS cH cW cC h' m vD vS vH vW vC ls as :=
  x.grow (fun b o _ _ e => k b o e) (x.T.cd fun b o _ e => k b o e) (x.T2.keeps k)
theorem LW.add (x : LW g L cD cS cH cW cC h m vD vS vH vW vC ls as) {p : Addr × List Int} (y : IL h p) : LW g L cD cS cH cW cC h m vD vS vH vW vC (p :: ls) as :=
  ⟨x.F, x.T, x.T2, x.D, x.S, x.H, x.W, x.C, fun q hq => (List.mem_cons.mp hq).elim (fun e => e ▸ y) (x.ls q), x.as⟩
theorem LW.addA (x : LW g L cD cS cH cW cC h m vD vS vH vW vC ls as) {p : Addr × List (Int × Int)} (y : AL h p) : LW g L cD cS cH cW cC h m vD vS vH vW vC ls (p :: as) :=
  ⟨x.F, x.T, x.T2, x.D, x.S, x.H, x.W, x.C, x.ls, fun q hq => (List.mem_cons.mp hq).elim (fun e => e ▸ y) (x.as q)⟩
/-- a turn of the frame alone -/
theorem LW.frame {m' : Str → Option Value} (x : LW g L cD cS cH cW cC h m vD vS vH vW vC ls as) (F' : Fx g L h' m' [76, 90]) (k : ∀ b o, b ≠ L → h.get? b = some o → h'.get? b = some o) : LW g L cD cS cH cW cC h' m' vD vS vH vW vC ls as := by
  have nd : ∀ b o, (∀ es n, o.data ≠ .dict es n) → h.get? b = some o → h'.get? b = some o := fun b o q e => k b o (fun z => by
    obtain ⟨oL, es, ep, hL', hd', _⟩ := x.F.ns
    rw [z, hL'] at e; cases e; exact q _ _ hd') e
  have kc : ∀ {c : Addr} {v : Option Value}, h.IsCell c v → h'.IsCell c v := fun {c v} y => by
    obtain ⟨o, e, d⟩ := y
    exact ⟨o, nd _ _ (by intro _ _ z; rw [d] at z; cases z) e, d⟩
  have kl : KLs h h' := fun b o vs n d e => nd b o (by intro _ _ z; rw [d] at z; cases z) e
  exact ⟨F', x.T.cd fun b o q e => nd b o (cd_ne q) e, x.T2.cd fun b o q e => nd b o (cd_ne q) e, kc x.D, kc x.S, kc x.H, kc x.W, kc x.C, fun p hp => (x.ls p hp).ls kl, fun p hp => (x.as p hp).ls kl⟩
theorem LW.store {y : Str} {v : Value} (x : LW g L cD cS cH cW cC h m vD vS vH vW vC ls as) (F' : Fx g L h' (fun z => if z = y then some v else m z) [76, 90]) (hs : Heap.SameBut L h h') : LW g L cD cS cH cW cC h' (fun z => if z = y then some v else m z) vD vS vH vW vC ls as :=
  x.frame F' fun b o q e => (hs.2 b q).trans e
theorem cell_turn {c : Addr} {v : Option Value} (x : LW g L cD cS cH cW cC h m vD vS vH vW vC ls as) (A : Ap g L cD cS cH cW cC) (hc : c ∈ [cD, cS, cH, cW, cC]) (y : h.IsCell c v) (hs : Heap.SameBut c h h') :
    Fx g L h' m [76, 90] ∧ ClsTab h' ∧ TabAt h' 90 K1 [] ∧ (∀ c' v', c' ≠ c → h.IsCell c' v' → h'.IsCell c' v') ∧ (∀ p ∈ ls, IL h' p) ∧ (∀ p ∈ as, AL h' p) := by
  have nc := cell_nc y hs
  have kl : KLs h h' := fun b o vs n d e => nc b o (by intro _ z; rw [d] at z; cases z) e
  exact ⟨x.F.turn' (A.nL c hc).2 (A.nL c hc).1 hs.extBut, x.T.cd fun b o q e => nc b o (cd_cell q) e, x.T2.cd fun b o q e => nc b o (cd_cell q) e, fun c' v' q z => let ⟨o, e, d⟩ := z; ⟨o, (hs.2 _ q).trans e, d⟩,
    fun p hp => (x.ls p hp).ls kl, fun p hp => (x.as p hp).ls kl⟩
theorem LW.setD {v : Value} (x : LW g L cD cS cH cW cC h m vD vS vH vW vC ls as) (A : Ap g L cD cS cH cW cC) (y : h'.IsCell cD (some v)) (hs : Heap.SameBut cD h h') : LW g L cD cS cH cW cC h' m (some v) vS vH vW vC ls as := by
  obtain ⟨F, T, T2, k, l, a⟩ := cell_turn x A (by simp) x.D hs
  have p := A.pw
  simp only [List.pairwise_cons, List.mem_cons, List.not_mem_nil, or_false, forall_eq_or_imp, forall_eq] at p
  exact ⟨F, T, T2, y, k _ _ (Ne.symm p.1.1) x.S, k _ _ (Ne.symm p.1.2.1) x.H, k _ _ (Ne.symm p.1.2.2.1) x.W, k _ _ (Ne.symm p.1.2.2.2) x.C, l, a⟩
theorem LW.setS {v : Value} (x : LW g L cD cS cH cW cC h m vD vS vH vW vC ls as) (A : Ap g L cD cS cH cW cC) (y : h'.IsCell cS (some v)) (hs : Heap.SameBut cS h h') : LW g L cD cS cH cW cC h' m vD (some v) vH vW vC ls as := by
  obtain ⟨F, T, T2, k, l, a⟩ := cell_turn x A (by simp) x.S hs
  have p := A.pw
  simp only [List.pairwise_cons, List.mem_cons, List.not_mem_nil, or_false, forall_eq_or_imp, forall_eq] at p
  exact ⟨F, T, T2, k _ _ p.1.1 x.D, y, k _ _ (Ne.symm p.2.1.1) x.H, k _ _ (Ne.symm p.2.1.2.1) x.W, k _ _ (Ne.symm p.2.1.2.2) x.C, l, a⟩
theorem LW.setH {v : Value} (x : LW g L cD cS cH cW cC h m vD vS vH vW vC ls as) (A : Ap g L cD cS cH cW cC) (y : h'.IsCell cH (some v)) (hs : Heap.SameBut cH h h') : LW g L cD cS cH cW cC h' m vD vS (some v) vW vC ls as := by
  obtain ⟨F, T, T2, k, l, a⟩ := cell_turn x A (by simp) x.H hs
  have p := A.pw
  simp only [List.pairwise_cons, List.mem_cons, List.not_mem_nil, or_false, forall_eq_or_imp, forall_eq] at p
  exact ⟨F, T, T2, k _ _ p.1.2.1 x.D, k _ _ p.2.1.1 x.S, y, k _ _ (Ne.symm p.2.2.1.1) x.W, k _ _ (Ne.symm p.2.2.1.2) x.C, l, a⟩
theorem LW.setW {v : Value} (x : LW g L cD cS cH cW cC h m vD vS vH vW vC ls as) (A : Ap g L cD cS cH cW cC) (y : h'.IsCell cW (some v)) (hs : Heap.SameBut cW h h') : LW g L cD cS cH cW cC h' m vD vS vH (some v) vC ls as := by
  obtain ⟨F, T, T2, k, l, a⟩ := cell_turn x A (by simp) x.W hs
  have p := A.pw
  simp only [List.pairwise_cons, List.mem_cons, List.not_mem_nil, or_false, forall_eq_or_imp, forall_eq] at p
  exact ⟨F, T, T2, k _ _ p.1.2.2.1 x.D, k _ _ p.2.1.2.1 x.S, k _ _ p.2.2.1.1 x.H, y, k _ _ (Ne.symm p.2.2.2.1) x.C, l, a⟩
theorem LW.setC {v : Value} (x : LW g L cD cS cH cW cC h m vD vS vH vW vC ls as) (A : Ap g L cD cS cH cW cC) (y : h'.IsCell cC (some v)) (hs : Heap.SameBut cC h h') : LW g L cD cS cH cW cC h' m vD vS vH vW (some v) ls as := by
  obtain ⟨F, T, T2, k, l, a⟩ := cell_turn x A (by simp) x.C hs
  have p := A.pw
  simp only [List.pairwise_cons, List.mem_cons, List.not_mem_nil, or_false, forall_eq_or_imp, forall_eq] at p
  exact ⟨F, T, T2, k _ _ p.1.2.2.2 x.D, k _ _ p.2.1.2.2 x.S, k _ _ p.2.2.1.2 x.H, k _ _ p.2.2.2.1 x.W, y, l, a⟩
end
section
variable {w : World} {A : Around} {E : Value → Shared → Prop} {s : Shared}
theorem sorted_il {l : Addr} {vs : List Value} {ns : List Int} {Q : Value → Shared → Prop} (hl : s.heap.IsList l vs.toArray) (hI : Ints vs ns) (h64 : vs.length < 64)
    (h : ∀ D h' ws ns', (∀ b o, s.heap.get? b = some o → h'.get? b = some o) → h'.IsList D ws.toArray → Ints ws ns' → ns'.Perm ns → ns'.Pairwise (· ≤ ·) → Q (.ref D) { s with heap := h' }) :
    wpAny (model prog w) A (call (.builtin "sorted") [.ref l]) Q E s := by
  refine sorted_ints hl hI.are h64 fun out ns' a1 a2 a3 => ?_
  obtain ⟨e, he⟩ := sortedAll_at s.heap vs out
  exact h _ _ out.toList ns' (fun _ _ => sortedAll_old) ⟨_, he, rfl, e, rfl⟩ (.of_are a1) a2 a3
end
end Mine

end
section
open PySem PySem.W PySem.W.X PyProof.Rows Builtin
set_option linter.unusedVariables false
namespace Mine
set_option maxRecDepth 100000
set_option maxHeartbeats 2000000
section
variable {w : World} {A : Around} {E : Value → Shared → Prop} {s : Shared} {mg mb : Str → Option Value} {g : Heap} {L a cD cS cH cW cC : Addr} {cd : Value} {m : Str → Option Value} {vD vS vH vW vC : Option Value} {ls : List (Addr × List Int)} {as : List (Addr × List (Int × Int))} {Rf : Flow → Shared → Prop}
noncomputable def Done (g : Heap) (s : Shared) (Rf : Flow → Shared → Prop) : Prop := ∀ h' tk, Has g h' [76, 90] → ClsTab h' → TabAt h' 90 K1 [] → Rf (.ret (.bool true)) { s with heap := h', toks := tk }
theorem Done.to {h : Heap} {tk : Nat} (x : Done g s Rf) : Done g { s with heap := h, toks := tk } Rf := fun h' tk' a b c => x h' tk' a b c
theorem stageZ {D W : Addr} {ds : List Int}
    (hh : A.handled = none) (hd : A.depth + 32 < recursionLimit) (hu : A.units + 300 < cLine) (S : Sta2 mg mb g) (ap : Ap g L cD cS cH cW cC) (h22 : ds.length < 22)
    (x : LW g L cD cS cH cW cC s.heap m (some (.ref D)) vS vH (some (.ref W)) vC ls as) (iD : IL s.heap (D, ds)) (iW : IL s.heap (W, nZ (ways ds.length))) (hQ : Done g s Rf) :
    wpAny (model prog w) A (execs ((bodyAt 17).drop 11) (lawEnv L a cd cD cS cH cW cC)) Rf E s := by
  obtain ⟨vs, pD, jD⟩ := iD
  dsimp only at pD jD
  obtain ⟨o', pm', cd', doc', e', d', c'⟩ := S.f_pushes
  refine wpAny_execs_cons (wpAny_Assign_Name (Call_ (ldGX x.F.toFr S.G S.g_pushes (callWith_def d' (args_cons (ldCX x.D (args_nil ⟨x.F.keep _ _ e', ?_⟩)))))))
  refine pushes1 hh (by omega) (by omega) S x.F.has x.T x.T2 pD jD (by omega) ?_
  intro h₁ tk₁ Cn cs H₁ k₁ T₁ T2₁ _ pC jC
  have x₁ := ((x.add (p := (D, ds)) ⟨vs, pD, jD⟩).add iW).grow k₁ T₁ T2₁
  have x₁ := x₁.add (p := (Cn, _)) ⟨cs, pC, jC⟩
  refine wpAny_storeName_cell (c := cC) (by rfl) (by rfl) (by rfl) x₁.C ?_
  intro h₂ cell₂ hs₂
  have x₂ := x₁.setC ap cell₂ hs₂
  clear x₁ hs₂ cell₂
  obtain ⟨us, pC₂, jC₂⟩ := x₂.ls (Cn, _) (.head _)
  obtain ⟨ws, pW₂, jW₂⟩ := x₂.ls (W, _) (.tail _ (.head _))
  dsimp only at pC₂ jC₂ pW₂ jW₂ ⊢
  have lenW : ws.length = ds.length := by rw [jW₂.length]; simp [nZ, ways_len]
  have lenC : us.length = ds.length := by rw [jC₂.length]; exact push_len ds
  have S₂ := S.toSta.keeps x₂.F.keep
  refine wpAny_execs_cons (wpAny_Return_some (wpAny_And2 (wpAny_Compare1 (Call_ (ldBX x₂.F.toFr S.G S.B S.b_len (PyProof.Rows.callWith_builtin1 (args_cons (ldCX x₂.C (args_nil (Calls.call_len_list pC₂.isList (by simp; omega) ?_))))))))))
  refine Call_ (ldBX x₂.F.toFr S.G S.B S.b_len (PyProof.Rows.callWith_builtin1 (args_cons (ldCX (by exact x₂.W) (args_nil (Calls.call_len_list (by exact pW₂.isList) (by simp; omega) (eq_int (wpAny_truthy_bool ?_))))))))
  have e1 : ((us.toArray.size : Int) == (ws.toArray.size : Int)) = true := by simp [lenW, lenC]
  rw [e1, if_pos rfl]
  refine wpAny_Compare1 (lawLast (ws := nZ (ways ds.length)) (cs := nI (pus (fun j => ds.getD j 0) ds.length).2.2) hh S₂ x₂.W x₂.C pW₂ jW₂ pC₂ jC₂ (by rw [← jW₂.length]; omega) ((push_len ds).trans (by rw [← jW₂.length]; omega)) (fun k hk => ?_) ?_)
  · have hk' : k < ds.length := by rw [← jW₂.length] at hk; omega
    exact (counts_ok ds h22 k hk').2
  · intro R h₃ tk₃ zs k₃ pR jR
    have x₃ := x₂.up k₃
    refine List_ (args_nil (wpAny_newObj_type ?_ (by show (0 : Nat) ≤ sizeLine; decide)))
    dsimp only
    have x₄ := x₃.up (h' := h₃.push { cls := .type "list", data := .seq ([] : List Value).toArray }) fun b o e => Heap.get?_push_of_some _ e
    refine eq_il (vs := zs) (us := []) (ns := []) (ms := []) (by omega) (pR.isList.push _) jR (newPlain _).isList .nil ?_
    exact hQ _ _ x₄.F.has x₄.T x₄.T2
end
end Mine

end
section
open PySem PySem.W PySem.W.X PyProof.Rows Builtin
set_option linter.unusedVariables false
namespace Mine
set_option maxRecDepth 100000
set_option maxHeartbeats 2000000
section
variable {w : World} {A : Around} {E : Value → Shared → Prop} {s : Shared} {mg mb : Str → Option Value} {g : Heap} {L a cD cS cH cW cC : Addr} {cd : Value} {m : Str → Option Value} {vD vS vH vW vC : Option Value} {ls : List (Addr × List Int)} {as : List (Addr × List (Int × Int))} {Rf : Flow → Shared → Prop}
theorem stageY {D R : Addr} {ds : List Int}
    (hh : A.handled = none) (hd : A.depth + 32 < recursionLimit) (hu : A.units + 300 < cLine) (S : Sta2 mg mb g) (ap : Ap g L cD cS cH cW cC) (h22 : ds.length < 22) (nn : ∀ d ∈ ds, 0 ≤ d)
    (x : LW g L cD cS cH cW cC s.heap m (some (.ref D)) vS vH vW vC ls as) (iD : IL s.heap (D, ds)) (iR : IL s.heap (R, risOf ds)) (hm : m "rising" = some (.ref R)) (hQ : Done g s Rf) :
    wpAny (model prog w) A (execs ((bodyAt 17).drop 9) (lawEnv L a cd cD cS cH cW cC)) Rf E s := by
  have x := (x.add iD).add iR
  obtain ⟨vs, pD, jD⟩ := iD
  dsimp only at pD jD
  have lenD := jD.length
  refine wpAny_execs_cons (wpAny_Assign_Name (lawWays hh (by omega) (S.toSta.keeps x.F.keep) x.D pD jD (by omega) fun W h₁ tk₁ ws k₁ pW jW => ?_))
  have x₁ := (x.up k₁).add (p := (W, nZ (ways ds.length))) ⟨ws, pW, jW⟩
  refine wpAny_storeName_cell (c := cW) (by rfl) (by rfl) (by rfl) x₁.W ?_
  intro h₂ cell₂ hs₂
  have x₂ := x₁.setW ap cell₂ hs₂
  clear x₁ x hs₂ cell₂ pW jW pD
  obtain ⟨rs, pR₂, jR₂⟩ := x₂.ls (R, _) (.tail _ (.head _))
  dsimp only at pR₂ jR₂ ⊢
  have lenR : rs.length = ds.length := by rw [jR₂.length, ris_len]
  obtain ⟨o', pm', cd', doc', e', d', c'⟩ := S.f_pushes
  refine wpAny_execs_cons (wpAny_If (wpAny_isTrue_Compare1 (Call_ (ldGX x₂.F.toFr S.G S.g_pushes (callWith_def d' (args_cons (rev_il pR₂.isList (by simp [sizeLine]; omega) (fun Q' q => ldX x₂.F.toFr hm q) fun h₃ tk₃ Dr k₃ _ pDr => args_nil ⟨k₃ _ _ (x₂.F.keep _ _ e'), ?_⟩)))))))
  have x₃ := x₂.up k₃
  refine pushes1 hh (by omega) (by omega) S x₃.F.has x₃.T x₃.T2 pDr jR₂.reverse (by rw [List.length_reverse, ris_len]; omega) ?_
  intro h₄ tk₄ Cn cs H₄ k₄ T₄ T2₄ _ pC jC
  have x₄ := x₃.grow k₄ T₄ T2₄
  obtain ⟨ws₄, pW₄, jW₄⟩ := x₄.ls (W, _) (.head _)
  dsimp only at pW₄ jW₄ ⊢
  rw [List.length_reverse, ris_len, ris_push nn h22] at jC
  refine ldCX x₄.W (ne_il (by omega) pC.isList jC pW₄.isList jW₄ (wpAny_truthy_bool ?_))
  rw [decide_eq_true (show nI (ways ds.length) = nZ (ways ds.length) from rfl)]
  show (if (!true) = true then _ else _)
  rw [if_neg (by decide)]
  refine wpAny_execs_nil ?_
  exact stageZ hh hd hu S ap h22 x₄ (x₄.ls _ (.tail _ (.tail _ (.head _)))) (x₄.ls _ (.head _)) hQ.to
theorem stageX {D R Aq : Addr} {ds : List Int} {lg : List (Int × Int)}
    (hh : A.handled = none) (hd : A.depth + 32 < recursionLimit) (hu : A.units + 300 < cLine) (S : Sta2 mg mb g) (ap : Ap g L cD cS cH cW cC) (h5 : 5 ≤ ds.length) (h22 : ds.length < 22) (nn : ∀ d ∈ ds, 0 ≤ d)
    (x : LW g L cD cS cH cW cC s.heap m (some (.ref D)) vS vH vW vC ls as) (iD : IL s.heap (D, ds)) (iR : IL s.heap (R, risOf ds)) (iA : AL s.heap (Aq, lg)) (hlg : lg.length = mcs ds.length (ds.length / 2)) (hm : m "rising" = some (.ref R)) (hma : m "asked" = some (.ref Aq)) (hQ : Done g s Rf) :
    wpAny (model prog w) A (execs ((bodyAt 17).drop 6) (lawEnv L a cd cD cS cH cW cC)) Rf E s := by
  have x := ((x.add iD).add iR).addA iA
  obtain ⟨vs, pD, jD⟩ := iD
  dsimp only at pD jD
  have lenD := jD.length
  obtain ⟨o', pm', cd', doc', e', d', c'⟩ := S.f_made
  refine wpAny_execs_cons (Assign_Tuple (Call_ (ldGX x.F.toFr S.G S.g_made (callWith_def d' (args_cons (ldCX x.D (args_nil ⟨x.F.keep _ _ e', ?_⟩)))))))
  refine made1 hh (by omega) (by omega) S x.F.has x.T x.T2 pD jD (by omega) ?_
  intro h₁ tk₁ t D1 D2 qs ws zz H₁ k₁ T₁ T2₁ et _ _ _ pF prF pH jH
  have x₁ := ((x.grow k₁ T₁ T2₁).add (p := (D2, heapOf ds)) ⟨ws, pH, jH⟩).addA (p := (D1, _)) ⟨qs, zz, pF, prF⟩
  clear x pD
  refine wpAny_assign_Tuple (items := #[.ref D1, .ref D2]) hh ⟨_, et, rfl, _, rfl⟩ (by rfl) (by rfl) fun h₂ x2 => ?_
  have x₂ := x₁.up fun b o e => x2 b o (Nat.ne_of_lt (Heap.lt_size e)) e
  clear x₁ pF prF pH jH
  refine wpAny_bind (wpAny_holding (wpAny_assign_Name (stX x₂.F fun h₃ F₃ hs₃ => ?_)))
  have x₃ := x₂.store F₃ hs₃
  refine wpAny_bind (wpAny_holding (wpAny_assign_Name (wpAny_storeName_cell (c := cH) (by rfl) (by rfl) (by rfl) x₃.H fun h₄ cell₄ hs₄ => wpAny_pure ?_)))
  have x₄ := x₃.setH ap cell₄ hs₄
  clear x₂ x₃ hs₃ hs₄ F₃ cell₄
  dsimp only
  obtain ⟨fs, z1, pF, prF⟩ := x₄.as _ (.head _)
  obtain ⟨qas, z2, pA, prA⟩ := x₄.as _ (.tail _ (.head _))
  obtain ⟨hsv, pH, jH⟩ := x₄.ls _ (.head _)
  obtain ⟨dsv, pD, jD⟩ := x₄.ls _ (.tail _ (.tail _ (.head _)))
  dsimp only at pF prF pA prA pH jH pD jD
  have hma' : (fun z => if z = Str.ofString "fewer" then some (Value.ref D1) else m z) (Str.ofString "asked") = some (.ref Aq) := by show (if _ = _ then _ else _) = _; rw [if_neg (by decide)]; exact hma
  have hm' : (fun z => if z = Str.ofString "fewer" then some (Value.ref D1) else m z) (Str.ofString "rising") = some (.ref R) := by show (if _ = _ then _ else _) = _; rw [if_neg (by decide)]; exact hm
  have lF : fs.length = (hy (fun j => ds.getD j 0) ds.length (ds.length / 2) (fun i => i) []).2.length := by rw [prF.length]; simp [intLog]
  have lA : qas.length = mcs ds.length (ds.length / 2) := by rw [prA.length, hlg]
  have lH : hsv.length = ds.length := by rw [jH.length, heap_len]
  have lD := jD.length
  have mm := mcs_le _ h22
  have fl := fewer_le nn h5 h22
  rw [(ris_log nn h5 h22).2.2.2] at fl
  refine wpAny_execs_cons (wpAny_If (wpAny_isTrue_BoolOp (wpAny_allTrue_Or_cons (wpAny_isTrue_Compare1 (Call_ (ldBX x₄.F.toFr S.G S.B S.b_len (PyProof.Rows.callWith_builtin1 (args_cons (ldX x₄.F.toFr lke (args_nil (Calls.call_len_list pF.isList (by simp; omega) ?_)))))))))))
  refine Call_ (ldBX x₄.F.toFr S.G S.B S.b_len (PyProof.Rows.callWith_builtin1 (args_cons (ldX x₄.F.toFr hma' (args_nil (Calls.call_len_list (by exact pA.isList) (by simp; omega) (gt_int (wpAny_truthy_bool ?_))))))))
  have e1 : decide ((fs.toArray.size : Int) > (qas.toArray.size : Int)) = false := decide_eq_false (by simp; omega)
  rw [e1, if_neg (by decide)]
  refine wpAny_allTrue_Or_cons (wpAny_isTrue_Compare1 (Call_ (ldBX x₄.F.toFr S.G S.B S.b_sorted (PyProof.Rows.callWith_builtin1 (args_cons (ldCX x₄.H (args_nil (sorted_il pH.isList jH (by omega) fun Da h₅ ws₅ ns₅ k₅ l₅ j₅ pm₅ so₅ => ?_))))))))
  have x₅ := x₄.up k₅
  dsimp only
  refine Call_ (ldBX x₅.F.toFr S.G S.B S.b_sorted (PyProof.Rows.callWith_builtin1 (args_cons (ldCX x₅.D (args_nil (sorted_il (pl_keep pD (k₅ _)).isList jD (by omega) fun Db h₆ ws₆ ns₆ k₆ l₆ j₆ pm₆ so₆ => ?_))))))
  have x₆ := x₅.up k₆
  dsimp only
  have e2 : ns₅ = ns₆ := sorted_eq (pm₅.trans ((heap_perm ds).trans pm₆.symm)) so₅ so₆
  refine ne_il (by omega) (isList_keep l₅ (k₆ _)) j₅ l₆ j₆ (wpAny_truthy_bool ?_)
  rw [decide_eq_true e2]
  show (if (!true) = true then _ else _)
  rw [if_neg (by decide)]
  refine wpAny_allTrue_Or_nil ?_
  rw [if_neg (by decide)]
  refine wpAny_execs_nil ?_
  dsimp only
  obtain ⟨hsv', pH', jH'⟩ := x₆.ls _ (.head _)
  dsimp only at pH' jH'
  refine wpAny_execs_cons (wpAny_If (wpAny_isTrue_Compare1 (lawHeapOk (ns := heapOf ds) hh (S.toSta.keeps x₆.F.keep) x₆.H pH' jH' (by rw [heap_len]; omega) (by rw [heap_len]; omega) (fun k h0 hk => heap_ok ds k h0 (by rw [heap_len] at hk; exact hk)) ?_)))
  intro Dk h₇ tk₇ zs k₇ pK jK
  have x₇ := x₆.up k₇
  refine List_ (args_nil (wpAny_newObj_type ?_ (by show (0 : Nat) ≤ sizeLine; decide)))
  dsimp only
  have x₈ := x₇.up (h' := h₇.push { cls := .type "list", data := .seq ([] : List Value).toArray }) fun b o e => Heap.get?_push_of_some _ e
  refine ne_il (vs := zs) (us := []) (ns := []) (ms := []) (by omega) (pK.isList.push _) jK (newPlain _).isList .nil (wpAny_truthy_bool ?_)
  rw [decide_eq_true rfl]
  show (if (!true) = true then _ else _)
  rw [if_neg (by decide)]
  refine wpAny_execs_nil ?_
  exact stageY hh hd hu S ap h22 nn x₈ (x₈.ls _ (.tail _ (.tail _ (.head _)))) (x₈.ls _ (.tail _ (.head _))) hm' hQ.to
end
end Mine

end
section
open PySem PySem.W PySem.W.X PyProof.Rows Builtin
set_option linter.unusedVariables false
namespace Mine
set_option maxRecDepth 100000
set_option maxHeartbeats 2000000
section
variable {w : World} {A : Around} {E : Value → Shared → Prop} {s : Shared} {mg mb : Str → Option Value} {g : Heap} {L a cD cS cH cW cC : Addr} {cd : Value} {m : Str → Option Value} {vD vS vH vW vC : Option Value} {ls : List (Addr × List Int)} {as : List (Addr × List (Int × Int))} {Rf : Flow → Shared → Prop}
theorem lk1 {m : Str → Option Value} {y x : Str} {v w : Option Value} (hy : m y = w) (h : y ≠ x) : (fun z => if z = x then v else m z) y = w := (if_neg h).trans hy
theorem ris_small {ds : List Int} : ∀ n, n < 22 → (halves n).1.length < 1000 ∧ 2 * (halves n).1.sum < 100000 := by decide +kernel
theorem stageW {D R S0 : Addr} {ds : List Int} {te : Tok}
    (hh : A.handled = none) (hd : A.depth + 32 < recursionLimit) (hu : A.units + 300 < cLine) (S : Sta2 mg mb g) (ap : Ap g L cD cS cH cW cC) (h5 : 5 ≤ ds.length) (h22 : ds.length < 22) (nn : ∀ d ∈ ds, 0 ≤ d)
    (x : LW g L cD cS cH cW cC s.heap m (some (.ref D)) (some (.ref S0)) vH vW vC ls as) (iD : IL s.heap (D, ds)) (iR : IL s.heap (R, risOf ds)) (iS : IL s.heap (S0, nI (halves ds.length).1))
    (hm : m "rising" = some (.ref R)) (hme : m "evens" = some (.int (halves ds.length).2 te)) (hQ : Done g s Rf) :
    wpAny (model prog w) A (execs ((bodyAt 17).drop 3) (lawEnv L a cd cD cS cH cW cC)) Rf E s := by
  have x := ((x.add iD).add iR).add iS
  obtain ⟨rs, pR, jR⟩ := iR
  dsimp only at pR jR
  have lenR := jR.length
  rw [ris_len] at lenR
  obtain ⟨o', pm', cd', doc', e', d', c'⟩ := S.f_made
  refine wpAny_execs_cons (Assign_Tuple (Call_ (ldGX x.F.toFr S.G S.g_made (callWith_def d' (args_cons (ldX x.F.toFr hm (args_nil ⟨x.F.keep _ _ e', ?_⟩)))))))
  refine made1 hh (by omega) (by omega) S x.F.has x.T x.T2 pR jR (by rw [ris_len]; omega) ?_
  intro h₁ tk₁ t Aq D2 qs ws zz H₁ k₁ T₁ T2₁ et _ _ _ pA prA pK jK
  rw [ris_len] at prA jK
  rw [ris_kept nn h5 h22] at jK
  obtain ⟨r1, r2, r3, r4⟩ := ris_log nn h5 h22
  generalize hlg : (hy (fun j => (risOf ds).getD j 0) ds.length (ds.length / 2) (fun i => i) []).2 = lg at prA r1 r2 r3 r4
  have x₁ := ((x.grow k₁ T₁ T2₁).add (p := (D2, risOf ds)) ⟨ws, pK, jK⟩).addA (p := (Aq, intLog (fun j => (risOf ds).getD j 0) lg)) ⟨qs, zz, pA, prA⟩
  clear x pR jR
  refine wpAny_assign_Tuple (items := #[.ref Aq, .ref D2]) hh ⟨_, et, rfl, _, rfl⟩ (by rfl) (by rfl) fun h₂ x2 => ?_
  have x₂ := x₁.up fun b o e => x2 b o (Nat.ne_of_lt (Heap.lt_size e)) e
  clear x₁ pA prA pK jK
  refine wpAny_bind (wpAny_holding (wpAny_assign_Name (stX x₂.F fun h₃ F₃ hs₃ => ?_)))
  have x₃ := x₂.store F₃ hs₃
  refine wpAny_bind (wpAny_holding (wpAny_assign_Name (stX x₃.F fun h₄ F₄ hs₄ => wpAny_pure ?_)))
  have x₄ := x₃.store F₄ hs₄
  clear x₂ x₃ hs₃ hs₄ F₃ F₄
  dsimp only
  have hm₄ : (fun z => if z = Str.ofString "kept" then some (Value.ref D2) else (fun z => if z = Str.ofString "asked" then some (Value.ref Aq) else m z) z) (Str.ofString "rising") = some (.ref R) := (if_neg (by decide)).trans ((if_neg (by decide)).trans hm)
  have hme₄ : (fun z => if z = Str.ofString "kept" then some (Value.ref D2) else (fun z => if z = Str.ofString "asked" then some (Value.ref Aq) else m z) z) (Str.ofString "evens") = some (.int (halves ds.length).2 te) := (if_neg (by decide)).trans ((if_neg (by decide)).trans hme)
  have hma₄ : (fun z => if z = Str.ofString "kept" then some (Value.ref D2) else (fun z => if z = Str.ofString "asked" then some (Value.ref Aq) else m z) z) (Str.ofString "asked") = some (.ref Aq) := (if_neg (by decide)).trans (if_pos rfl)
  have hmk₄ : (fun z => if z = Str.ofString "kept" then some (Value.ref D2) else (fun z => if z = Str.ofString "asked" then some (Value.ref Aq) else m z) z) (Str.ofString "kept") = some (.ref D2) := if_pos rfl
  generalize (fun z => if z = Str.ofString "kept" then some (Value.ref D2) else if z = Str.ofString "asked" then some (Value.ref Aq) else m z) = m₄ at x₄ hm₄ hme₄ hma₄ hmk₄
  obtain ⟨qas, z2, pA, prA⟩ := x₄.as _ (.head _)
  obtain ⟨ks, pK, jK⟩ := x₄.ls _ (.head _)
  obtain ⟨ss, pS, jS⟩ := x₄.ls _ (.tail _ (.head _))
  obtain ⟨rs, pR, jR⟩ := x₄.ls _ (.tail _ (.tail _ (.head _)))
  obtain ⟨dsv, pD, jD⟩ := x₄.ls _ (.tail _ (.tail _ (.tail _ (.head _))))
  dsimp only at pA prA pK jK pS jS pR jR pD jD
  have lA : qas.length = lg.length := by rw [prA.length]; simp [intLog]
  have lD := jD.length
  have lS := jS.length
  have mm := mcs_le _ h22
  obtain ⟨sm1, sm2⟩ := ris_small (ds := ds) _ h22
  refine wpAny_execs_cons (wpAny_If (wpAny_isTrue_BoolOp (wpAny_allTrue_Or_cons (wpAny_isTrue_Compare1 (ldX x₄.F.toFr hmk₄ (ldX x₄.F.toFr hm₄ (ne_il (by omega) pK.isList jK pR.isList jR (wpAny_truthy_bool ?_))))))))
  rw [decide_eq_true rfl]
  show (if (!true) = true then _ else _)
  rw [if_neg (by decide)]
  refine wpAny_allTrue_Or_cons (wpAny_isTrue_Compare1 (Call_ (ldBX x₄.F.toFr S.G S.B S.b_len (PyProof.Rows.callWith_builtin1 (args_cons (ldX x₄.F.toFr hma₄ (args_nil (Calls.call_len_list pA.isList (by simp; omega) ?_))))))))
  refine wpAny_BinOp (wpAny_BinOp (wpAny_Constant_int (Call_ (ldBX x₄.F.toFr S.G S.B S.b_sum (PyProof.Rows.callWith_builtin1 (args_cons (ldCX (by exact x₄.S) (args_nil (sum_il hh (by exact pS.isList) jS fun h₅ tk₅ t₅ k₅ => mul_int ?_ (IntMulOk.of_left (by decide)))))))))))
  have x₅ := x₄.up k₅
  clear x₄
  dsimp only
  refine ldX x₅.F.toFr hme₄ (sub_int (ne_int (wpAny_truthy_bool ?_)))
  have e1 : ((qas.toArray.size : Int) != 2 * (nI (halves ds.length).1).sum - ((halves ds.length).2 : Nat)) = false := by
    have e2 : (nI (halves ds.length).1).sum = (nZ (halves ds.length).1).sum := rfl
    rw [e2, ← r1, List.size_toArray, lA]; simp
  rw [e1, if_neg (by decide)]
  refine wpAny_allTrue_Or_nil ?_
  rw [if_neg (by decide)]
  refine wpAny_execs_nil ?_
  dsimp only
  have pR := pl_keep pR (k₅ _)
  have pA := pl_keep pA (k₅ _)
  have prA := prA.mono fun a i t j u hl => isList_keep hl (k₅ _)
  obtain ⟨o', pm', cd', doc', e', d', c'⟩ := S.f_held
  refine wpAny_execs_cons (wpAny_If (wpAny_isTrue_Compare1 (Call_ (ldGX x₅.F.toFr S.G S.g_held (callWith_def d' (args_cons (ldX x₅.F.toFr hm₄ (args_cons (ldX x₅.F.toFr hma₄ (args_nil ⟨x₅.F.keep _ _ e', ?_⟩))))))))))
  refine held1 (g := hideAll h₅ []) (n := ds.length) (log := lg) hh (by omega) (S.toSta.keeps fun b o e => hideAll_get _ (x₅.F.keep _ _ e) (by simp)) (has_hide h₅ []) pR jR (ris_len ds) (by omega) (fun i j hi hj e => ris_inj nn i j hi hj e) pA prA r3 (by omega) ?_
  intro Hd h₆ tk₆ hv H₆ k₆ _ pHd jHd
  have x₆ := x₅.up k₆
  dsimp only
  have pD₆ := pl_keep (pl_keep pD (k₅ _)) (k₆ _)
  have pS₆ := pl_keep (pl_keep pS (k₅ _)) (k₆ _)
  refine lawHeldCmp hh (S.toSta.keeps x₆.F.keep) x₆.D pD₆ jD (by omega) x₆.S pS₆ jS (by rw [lS]; simp [nI]; omega) fun Cm h₇ tk₇ cv k₇ pCm jCm => ?_
  have x₇ := x₆.up k₇
  refine ne_il (by omega) (pl_keep pHd (k₇ _)).isList jHd pCm.isList jCm (wpAny_truthy_bool ?_)
  have e3 : nI (heldOf ds.length lg) = (List.range ds.length).map fun (k : Nat) => (((nI (halves ds.length).1).filter fun z => decide ((k : Int) < z)).length : Int) := by
    rw [r2]
    unfold nI
    rw [List.map_map]
    apply List.map_congr_left
    intro k _
    simp only [Function.comp]
    congr 1
    rw [List.filter_map, List.length_map]
    congr 2
    funext z
    simp
  rw [decide_eq_true e3]
  show (if (!true) = true then _ else _)
  rw [if_neg (by decide)]
  refine wpAny_execs_nil ?_
  exact stageX (lg := intLog (fun j => (risOf ds).getD j 0) lg) hh hd hu S ap h5 h22 nn x₇ (x₇.ls _ (.tail _ (.tail _ (.tail _ (.head _))))) (x₇.ls _ (.tail _ (.tail _ (.head _)))) (x₇.as _ (.head _)) (by simp [intLog, r4]) hm₄ hma₄ hQ.to
end
end Mine

end
section
open PySem PySem.W PySem.W.X PyProof.Rows Builtin
set_option linter.unusedVariables false
namespace Mine
set_option maxRecDepth 100000
set_option maxHeartbeats 2000000
section
variable {w : World} {A : Around} {E : Value → Shared → Prop} {s : Shared} {mg mb : Str → Option Value} {g : Heap} {L a cD cS cH cW cC : Addr} {cd : Value} {m : Str → Option Value} {vD vS vH vW vC : Option Value} {ls : List (Addr × List Int)} {as : List (Addr × List (Int × Int))} {Rf : Flow → Shared → Prop}
theorem LW.lt (x : LW g L cD cS cH cW cC s.heap m vD vS vH vW vC ls as) : ∀ a ∈ [(76 : Addr), 90], a < s.heap.objs.size := by
  intro a ha
  rcases List.mem_cons.mp ha with rfl | ha
  · exact let ⟨_, e, _⟩ := odd_cls x.T; Heap.lt_size e
  · obtain rfl := List.mem_singleton.mp ha
    exact x.T2.addr
theorem stageV {R0 : Addr} {ms : List Int}
    (hh : A.handled = none) (hd : A.depth + 32 < recursionLimit) (hu : A.units + 300 < cLine) (S : Sta2 mg mb g) (ap : Ap g L cD cS cH cW cC)
    (x : LW g L cD cS cH cW cC s.heap m vD vS vH vW vC ls as) (iR : ∃ vs, s.heap.IsList R0 vs.toArray ∧ Ints vs ms) (hms : ms.length < 1000) (hm : m "script" = some (.ref R0)) (hQ : Done g s Rf) :
    wpAny (model prog w) A (execs (bodyAt 17) (lawEnv L a cd cD cS cH cW cC)) Rf E s := by
  obtain ⟨h5, h22⟩ := drawn_len ms
  have nn := drawn_nn ms
  obtain ⟨vs, pR, jR⟩ := iR
  refine wpAny_execs_cons (wpAny_Assign_Name (lawDrawn hh x.F.ns hm pR jR (by rw [jR.length]; exact hms) fun D h₁ tk₁ ws k₁ pD jD => ?_))
  have x₁ := (x.up k₁).add (p := (D, drawnOf ms)) ⟨ws, pD, jD⟩
  generalize drawnOf ms = ds at x₁ jD h5 h22 nn
  clear x pR jR pD
  refine wpAny_storeName_cell (c := cD) (by rfl) (by rfl) (by rfl) x₁.D ?_
  intro h₂ cell₂ hs₂
  have x₂ := x₁.setD ap cell₂ hs₂
  clear x₁ hs₂ cell₂
  obtain ⟨ws, pD, jD⟩ := x₂.ls _ (.head _)
  dsimp only at pD jD ⊢
  have lenD := jD.length
  refine wpAny_execs_cons (lawRising (g := g) (muts := [76, 90]) (by kernel_rfl) hh x₂.F x₂.lt (S.toSta.keeps x₂.F.keep) x₂.D pD jD (by omega) fun R h₃ tk₃ rs F₃ k₃ pR jR => ?_)
  have x₃ := (x₂.frame F₃ k₃).add (p := (R, risOf ds)) ⟨rs, pR, jR⟩
  clear x₂ F₃ pR jR pD
  obtain ⟨ws', pD, jD'⟩ := x₃.ls _ (.tail _ (.head _))
  dsimp only at pD jD' ⊢
  have lenD' := jD'.length
  obtain ⟨o', pm', cd', doc', e', d', c'⟩ := S.f_halves
  refine wpAny_execs_cons (Assign_Tuple (Call_ (ldGX x₃.F.toFr S.G S.g_halves (callWith_def d' (args_cons (Call_ (ldBX x₃.F.toFr S.G S.B S.b_len (PyProof.Rows.callWith_builtin1 (args_cons (ldCX x₃.D (args_nil (Calls.call_len_list pD.isList (by simp; omega) (args_nil ⟨x₃.F.keep _ _ e', ?_⟩)))))))))))))
  have e1 : (ws'.toArray.size : Int) = ((ds.length : Nat) : Int) := by simp [lenD']
  rw [e1]
  refine halves1 (g := hideAll h₃ []) (by omega) (S.toSta.keeps fun b o e => hideAll_get _ (x₃.F.keep _ _ e) (by simp)) (has_hide h₃ []) h22 ?_
  intro h₄ tk₄ t S0 ss te H₄ et pS jS _ _
  have x₄ := (x₃.up fun b o e => H₄.keep _ _ (hideAll_get _ e (by simp))).add (p := (S0, nI (halves ds.length).1)) ⟨ss, pS, jS⟩
  clear x₃ pS jS pD
  refine wpAny_assign_Tuple (items := #[.ref S0, .int (halves ds.length).2 te]) hh ⟨_, et, rfl, _, rfl⟩ (by rfl) (by rfl) fun h₅ x5 => ?_
  have x₅ := x₄.up fun b o e => x5 b o (Nat.ne_of_lt (Heap.lt_size e)) e
  clear x₄
  refine wpAny_bind (wpAny_holding (wpAny_assign_Name (wpAny_storeName_cell (c := cS) (by rfl) (by rfl) (by rfl) x₅.S fun h₆ cell₆ hs₆ => ?_)))
  have x₆ := x₅.setS ap cell₆ hs₆
  refine wpAny_bind (wpAny_holding (wpAny_assign_Name (stX x₆.F fun h₇ F₇ hs₇ => wpAny_pure ?_)))
  have x₇ := x₆.store F₇ hs₇
  clear x₅ x₆ hs₆ F₇ hs₇ cell₆
  dsimp only
  exact stageW (te := te) hh hd hu S ap h5 h22 nn x₇ (x₇.ls _ (.tail _ (.tail _ (.head _)))) (x₇.ls _ (.tail _ (.head _))) (x₇.ls _ (.head _)) ((if_neg (by decide)).trans (if_pos rfl)) (if_pos rfl) hQ.to
end
theorem law1 {w : World} {A : Around} {R : Result → Shared → Prop} {s : Shared} {mg mb : Str → Option Value} {g : Heap} {fa R0 : Addr} {vs : List Value} {ms : List Int}
    (hh : A.handled = none) (hd : A.depth + 40 < recursionLimit) (hu : A.units + 400 < cLine) (S : Sta2 mg mb g) (fl : FnAt g fa 17 "law") (HS : Has g s.heap [76, 90]) (T : ClsTab s.heap) (T2 : TabAt s.heap 90 K1 []) (hR : s.heap.IsList R0 vs.toArray) (hI : Ints vs ms) (hn : ms.length < 1000)
    (h : ∀ h' tk, Has g h' [76, 90] → ClsTab h' → TabAt h' 90 K1 [] → R (.ok (.ret (.bool true))) { s with heap := h', toks := tk }) :
    codeAny (model prog w) A (.call (.ref fa) ⟨[.ref R0], []⟩) R s := by
  obtain ⟨o, pm, cd, doc, eo, ed, ec⟩ := fl
  have lm : ∀ a ∈ [(76 : Addr), 90], a < s.heap.objs.size := by
    intro a ha
    rcases List.mem_cons.mp ha with rfl | ha
    · exact let ⟨_, e, _⟩ := odd_cls T; Heap.lt_size e
    · obtain rfl := List.mem_singleton.mp ha
      exact T2.addr
  refine enterCs (cells := fun L => [("counts", L + 1 + 1 + 1 + 1 + 1), ("ways", L + 1 + 1 + 1 + 1), ("heap", L + 1 + 1 + 1), ("sizes", L + 1 + 1), ("drawn", L + 1)]) (by omega) HS lm eo ed S.lim ec (binds := [("script", .ref R0)]) (m := fun y => if y = "script" then some (.ref R0) else none) (cm := fun _ => none) (by rfl) (fun _ => by rfl) ?_ (fun _ _ _ => by rfl) (fun _ _ _ => by rfl) ?_
  · intro y hy
    obtain rfl := List.mem_singleton.mp hy
    exact .inl (show List.lookup (Str.ofString "script") (scoAt 17).names = some NameKind.local by decide +kernel)
  intro L h₁ tk F hc hap hab hk hL
  have c1 := hc "drawn" (L + 1) (by rfl)
  have c2 := hc "sizes" (L + 1 + 1) (by rfl)
  have c3 := hc "heap" (L + 1 + 1 + 1) (by rfl)
  have c4 := hc "ways" (L + 1 + 1 + 1 + 1) (by rfl)
  have c5 := hc "counts" (L + 1 + 1 + 1 + 1 + 1) (by rfl)
  have gl : ∀ c, L < c → g.get? c = none := fun c h => Heap.get?_none_of_le (Nat.le_trans F.above (Nat.le_of_lt h))
  have T₁ := T.cd fun b o _ e => hk b o e
  have T2₁ := T2.keeps hk
  have x : LW g L (L + 1) (L + 1 + 1) (L + 1 + 1 + 1) (L + 1 + 1 + 1 + 1) (L + 1 + 1 + 1 + 1 + 1) h₁ _ none none none none none [] [] := ⟨F, T₁, T2₁, c1, c2, c3, c4, c5, (by intro p hp; cases hp), (by intro p hp; cases hp)⟩
  have ap : Ap g L (L + 1) (L + 1 + 1) (L + 1 + 1 + 1) (L + 1 + 1 + 1 + 1) (L + 1 + 1 + 1 + 1 + 1) := by
    have hL' : ∀ c : Nat, L < c → c ≠ L ∧ g.get? c = none := fun c h => ⟨Nat.ne_of_gt h, gl c h⟩
    constructor
    · intro c hc
      simp only [List.mem_cons, List.not_mem_nil, or_false] at hc
      have t : ∀ n : Nat, (L : Nat) < L + n + 1 := fun n => Nat.lt_succ_of_le (Nat.le_add_right _ _)
      rcases hc with rfl | rfl | rfl | rfl | rfl
      · exact hL' _ (t 0)
      · exact hL' _ (t 1)
      · exact hL' _ (t 2)
      · exact hL' _ (t 3)
      · exact hL' _ (t 4)
    · have t : ∀ (b n : Nat), b ≠ b + n + 1 := fun b n => by omega
      simp only [List.pairwise_cons, List.mem_cons, List.not_mem_nil, or_false, forall_eq_or_imp, forall_eq, false_imp_iff, implies_true, List.Pairwise.nil, and_true]
      exact ⟨⟨t (L + 1) 0, t (L + 1) 1, t (L + 1) 2, t (L + 1) 3⟩, ⟨t (L + 1 + 1) 0, t (L + 1 + 1) 1, t (L + 1 + 1) 2⟩, ⟨t (L + 1 + 1 + 1) 0, t (L + 1 + 1 + 1) 1⟩, t (L + 1 + 1 + 1 + 1) 0⟩
  refine stageV (R0 := R0) (ms := ms) (by show A.handled = none; exact hh) (by rw [depth_deeper]; omega) (by rw [units_deeper]; omega) S ap x ⟨vs, isList_keep hR (hk _), hI⟩ hn (if_pos rfl) ?_
  intro h' tk' a b c
  exact h h' tk' a b c
end Mine

end
section
open PySem PySem.W PySem.W.X PyProof.Rows Builtin
set_option linter.unusedVariables false
namespace Mine
set_option maxRecDepth 100000
section
variable {p : Program} {loose : List Str} {mean : ExcName → Option Value} {mg mb : Str → Option Value} {h : Heap} {K : Frag}
theorem fn_top (T : Top p loose mean mg mb h) (X : K.In h) {x : Str} {a : Addr} {i : Nat} (e : nsIn K mainGlobals x = some (some (.ref a)))
    (hr : ((recsOf p).find? (fun e => e.name == x)).map (fun d => (d.params, d.body, d.scope)) = some (parAt i, bodyAt i, scoAt i)) : mg x = some (.ref a) ∧ FnAt h a i x := by
  have e1 := mg_of X T.g e
  refine ⟨e1, ?_⟩
  obtain ⟨d, hd, hq⟩ := Option.map_eq_some_iff.mp hr
  have hn : d.name = x := beq_iff_eq.mp (List.find?_some (p := fun e : DefRec => e.name == x) hd)
  obtain ⟨a', o, pm, code, doc, h1, h2, h3, h4⟩ := T.fn d (List.mem_of_find?_eq_some hd)
  rw [hn, e1] at h1
  cases h1
  have q1 : d.params = parAt i := congrArg (·.1) hq
  have q2 : d.body = bodyAt i := congrArg (·.2.1) hq
  have q3 : d.scope = scoAt i := congrArg (·.2.2) hq
  rw [hn, q1, q2, q3] at h3
  rw [hn] at h4
  exact ⟨o, pm, code, doc, h2, h3, h4⟩
theorem fn_code (T : Top p loose mean mg mb h) (X : K.In h) {x : Str} {a c P : Addr} {i : Nat} (e : nsIn K mainGlobals x = some (some (.ref a)))
    (hr : ((recsOf p).find? (fun e => e.name == x)).map (fun d => (d.params, d.body, d.scope)) = some (parAt i, bodyAt i, scoAt i)) (ht : tabIn K x = some (c, P)) :
    (CodeHd h c P ∧ h.get? P = some (tabObj #[])) ∧ ∃ o pm doc, h.get? a = some o ∧ o.data = .func (Calls.docDef x (parAt i) (bodyAt i) (scoAt i) pm (.ref c) doc) ∧ h.CodeRec (.ref c) x := by
  obtain ⟨e1, o, pm, cd, doc, h2, h3, h4⟩ := fn_top T X e hr
  obtain ⟨d, hd, _⟩ := Option.map_eq_some_iff.mp hr
  have hc : (Calls.docDef x (parAt i) (bodyAt i) (scoAt i) pm cd doc).code = .ref c := law_code X T.g ht e1 h2 h3
  have hc' : cd = .ref c := hc
  rw [hc'] at h3 h4
  exact ⟨tab_of T X hd ht, o, pm, doc, h2, h3, h4⟩
theorem name_in (T : Top p loose mean mg mb h) (X : K.In h) {x : Str} (e : ((nsIn K mainGlobals x).bind id).isSome = true) : ∃ v, mg x = some v := by
  cases q : nsIn K mainGlobals x with
  | none => rw [q] at e; cases e
  | some r =>
    cases r with
    | none => rw [q] at e; cases e
    | some v => exact ⟨v, mg_of X T.g q⟩
theorem obj_in (X : K.In h) {a : Addr} (e : (K.lookup a).isSome = true) : ∃ o, h.get? a = some o := by
  obtain ⟨o, q⟩ := Option.isSome_iff_exists.mp e
  exact ⟨o, X _ _ q⟩
theorem look_in (X : K.In h) {a : Addr} {x : Str} (e : (K.lookup a).map (fun o => lookIn x o) = some (some none)) : ∃ o2, h.get? a = some o2 ∧ lookIn x o2 = some none := by
  obtain ⟨o, q, r⟩ := Option.map_eq_some_iff.mp e
  exact ⟨o, X _ _ q, r⟩
theorem cls_empty (e : h.get? 76 = some (tabObj #[])) : ClsTab h := ⟨#[], e, by exact True.intro, fun cv hc => by simp [codeAmong] at hc⟩
theorem tab_empty (e : h.get? 90 = some (tabObj #[])) : TabAt h 90 K1 [] := ⟨#[], e, by exact True.intro, fun p hp cv hc => by simp [codeAmong] at hc, fun p hp => nomatch hp⟩
theorem Has.tabs (e1 : h.get? 76 = some (tabObj #[])) : Has (hideAll h [76, 90]) h [76, 90] := has_hide h [76, 90]
end
end Mine

end
section
open PySem PySem.W PySem.W.X PyProof.Rows
namespace Mine
set_option maxRecDepth 100000
/-- the few objects of the top that the walk looks up -/
noncomputable def topK (P : Params) : Frag := [
  ((2 : Addr), ({ cls := .none, data := .dict #[{ hash := PyData.keyHash P "type.__subclasses__.Exception.0", key := .str "type.__subclasses__.Exception.0" 249, val := .int 52 0 }, { hash := PyData.keyHash P "type.__subclasses__.Exception.n", key := .str "type.__subclasses__.Exception.n" 250, val := .int 1 0 }] 2 } : Obj)),
  ((3 : Addr), ({ cls := .type "dict", data := .dict #[{ hash := PyData.keyHash P "__name__", key := .str "__name__" 165, val := .str "law_oy0030_01" 291 }, { hash := PyData.keyHash P "__doc__", key := .str "__doc__" 166, val := .none }, { hash := PyData.keyHash P "__package__", key := .str "__package__" 167, val := .none }, { hash := PyData.keyHash P "__loader__", key := .str "__loader__" 168, val := .builtin "__main__.__loader__#opaque" }, { hash := PyData.keyHash P "__spec__", key := .str "__spec__" 169, val := .none }, { hash := PyData.keyHash P "__annotations__", key := .str "__annotations__" 170, val := .ref 6 }, { hash := PyData.keyHash P "__builtins__", key := .str "__builtins__" 171, val := .ref 4 }, { hash := PyData.keyHash P "__file__", key := .str "__file__" 173, val := .str "/claim/cut.py" 172 }, { hash := PyData.keyHash P "__cached__", key := .str "__cached__" 174, val := .none }, { hash := PyData.keyHash P "heappush", key := .str "heappush" 196, val := .ref 21 }, { hash := PyData.keyHash P "heapify", key := .str "heapify" 205, val := .ref 28 }, { hash := PyData.keyHash P "_siftdown", key := .str "_siftdown" 217, val := .ref 35 }, { hash := PyData.keyHash P "_siftup", key := .str "_siftup" 230, val := .ref 42 }, { hash := PyData.keyHash P "Error", key := .str "Error" 252, val := .ref 52 }, { hash := PyData.keyHash P "error_reply", key := .str "error_reply" 268, val := .ref 65 }, { hash := PyData.keyHash P "parse257", key := .str "parse257" 279, val := .ref 74 }, { hash := PyData.keyHash P "cmp_to_key", key := .str "cmp_to_key" 290, val := .ref 81 }, { hash := PyData.keyHash P "_law_halves", key := .str "_law_halves" 303, val := .ref 88 }, { hash := PyData.keyHash P "_law_keys", key := .str "_law_keys" 309, val := .ref 93 }, { hash := PyData.keyHash P "_law_made", key := .str "_law_made" 315, val := .ref 98 }, { hash := PyData.keyHash P "_law_held_below", key := .str "_law_held_below" 328, val := .ref 105 }, { hash := PyData.keyHash P "_law_pushes", key := .str "_law_pushes" 340, val := .ref 112 }, { hash := PyData.keyHash P "law", key := .str "law" 346, val := .ref 117 }] 23 } : Obj)),
  ((80 : Addr), ({ cls := .type "code", data := .fields #[.str "cmp_to_key" 282, .str "cmp_to_key" 283, .str "/claim/cut.py" 284, .int 57 0, .int 1 0, .int 0 0, .int 0 0, .int 3 0, .ref 75, .bool true, .int 181 0, .ref 76, .none, .ref 77, .ref 78, .ref 79, .int 288 0, .int 57 0, .str "/claim/cut.py" 289] } : Obj)),
  ((81 : Addr), ({ cls := .type "function", data := .func (Calls.docDef "cmp_to_key" (parAt 10) (bodyAt 10) (scoAt 10) (.str "cpy313.functools" 280) (.ref 80) .none) } : Obj)),
  ((92 : Addr), ({ cls := .type "code", data := .fields #[.str "_law_keys" 304, .str "_law_keys" 305, .str "/claim/cut.py" 306, .int 94 0, .int 2 0, .int 0 0, .int 0 0, .int 3 0, .ref 89, .bool true, .int 181 0, .ref 90, .none, .none, .none, .ref 91, .int 307 0, .int 94 0, .str "/claim/cut.py" 308] } : Obj)),
  ((93 : Addr), ({ cls := .type "function", data := .func (Calls.docDef "_law_keys" (parAt 13) (bodyAt 13) (scoAt 13) (.str "law_oy0030_01" 291) (.ref 92) .none) } : Obj))]
local macro_rules | `(tactic| k_head) => `(tactic| o_head (kHook topK [2, 3, 80, 81, 92, 93] (fun _ => by kernel_rfl)))
set_option maxRecDepth 100000 in
set_option maxHeartbeats 8000000 in
open_top hd for PySem.Challenge.rw_oy0030_01
end Mine

end
section
open PySem PySem.W PySem.W.X PyProof.Rows Builtin
set_option linter.unusedVariables false
namespace Mine
set_option maxRecDepth 100000
set_option maxHeartbeats 4000000
section
variable {P : Params}
theorem k1_in : nsIn (topK P) mainGlobals "heappush" = some (some (.ref 21)) := by kernel_rfl
theorem r1_in : ((recsOf hd.view_39).find? (fun e : DefRec => e.name == ("heappush" : Str))).map (fun d => (d.params, d.body, d.scope)) = some (parAt 1, bodyAt 1, scoAt 1) := by kernel_rfl
theorem k2_in : nsIn (topK P) mainGlobals "heapify" = some (some (.ref 28)) := by kernel_rfl
theorem r2_in : ((recsOf hd.view_39).find? (fun e : DefRec => e.name == ("heapify" : Str))).map (fun d => (d.params, d.body, d.scope)) = some (parAt 2, bodyAt 2, scoAt 2) := by kernel_rfl
theorem k3_in : nsIn (topK P) mainGlobals "_siftdown" = some (some (.ref 35)) := by kernel_rfl
theorem r3_in : ((recsOf hd.view_39).find? (fun e : DefRec => e.name == ("_siftdown" : Str))).map (fun d => (d.params, d.body, d.scope)) = some (parAt 3, bodyAt 3, scoAt 3) := by kernel_rfl
theorem k4_in : nsIn (topK P) mainGlobals "_siftup" = some (some (.ref 42)) := by kernel_rfl
theorem r4_in : ((recsOf hd.view_39).find? (fun e : DefRec => e.name == ("_siftup" : Str))).map (fun d => (d.params, d.body, d.scope)) = some (parAt 4, bodyAt 4, scoAt 4) := by kernel_rfl
theorem k8_in : nsIn (topK P) mainGlobals "parse257" = some (some (.ref 74)) := by kernel_rfl
theorem r8_in : ((recsOf hd.view_39).find? (fun e : DefRec => e.name == ("parse257" : Str))).map (fun d => (d.params, d.body, d.scope)) = some (parAt 8, bodyAt 8, scoAt 8) := by kernel_rfl
theorem k10_in : nsIn (topK P) mainGlobals "cmp_to_key" = some (some (.ref 81)) := by kernel_rfl
theorem r10_in : ((recsOf hd.view_39).find? (fun e : DefRec => e.name == ("cmp_to_key" : Str))).map (fun d => (d.params, d.body, d.scope)) = some (parAt 10, bodyAt 10, scoAt 10) := by kernel_rfl
theorem k12_in : nsIn (topK P) mainGlobals "_law_halves" = some (some (.ref 88)) := by kernel_rfl
theorem r12_in : ((recsOf hd.view_39).find? (fun e : DefRec => e.name == ("_law_halves" : Str))).map (fun d => (d.params, d.body, d.scope)) = some (parAt 12, bodyAt 12, scoAt 12) := by kernel_rfl
theorem k13_in : nsIn (topK P) mainGlobals "_law_keys" = some (some (.ref 93)) := by kernel_rfl
theorem r13_in : ((recsOf hd.view_39).find? (fun e : DefRec => e.name == ("_law_keys" : Str))).map (fun d => (d.params, d.body, d.scope)) = some (parAt 13, bodyAt 13, scoAt 13) := by kernel_rfl
theorem k14_in : nsIn (topK P) mainGlobals "_law_made" = some (some (.ref 98)) := by kernel_rfl
theorem r14_in : ((recsOf hd.view_39).find? (fun e : DefRec => e.name == ("_law_made" : Str))).map (fun d => (d.params, d.body, d.scope)) = some (parAt 14, bodyAt 14, scoAt 14) := by kernel_rfl
theorem k15_in : nsIn (topK P) mainGlobals "_law_held_below" = some (some (.ref 105)) := by kernel_rfl
theorem r15_in : ((recsOf hd.view_39).find? (fun e : DefRec => e.name == ("_law_held_below" : Str))).map (fun d => (d.params, d.body, d.scope)) = some (parAt 15, bodyAt 15, scoAt 15) := by kernel_rfl
theorem k16_in : nsIn (topK P) mainGlobals "_law_pushes" = some (some (.ref 112)) := by kernel_rfl
theorem r16_in : ((recsOf hd.view_39).find? (fun e : DefRec => e.name == ("_law_pushes" : Str))).map (fun d => (d.params, d.body, d.scope)) = some (parAt 16, bodyAt 16, scoAt 16) := by kernel_rfl
theorem k17_in : nsIn (topK P) mainGlobals "law" = some (some (.ref 117)) := by kernel_rfl
theorem r17_in : ((recsOf hd.view_39).find? (fun e : DefRec => e.name == ("law" : Str))).map (fun d => (d.params, d.body, d.scope)) = some (parAt 17, bodyAt 17, scoAt 17) := by kernel_rfl
theorem k_len : nsIn (topK P) mainGlobals "len" = some none := by kernel_rfl
theorem bb_len : bootBuiltins "len" = some (.builtin "len") := by decide +kernel
theorem k_range : nsIn (topK P) mainGlobals "range" = some none := by kernel_rfl
theorem bb_range : bootBuiltins "range" = some (.type "range") := by decide +kernel
theorem k_reversed : nsIn (topK P) mainGlobals "reversed" = some none := by kernel_rfl
theorem bb_reversed : bootBuiltins "reversed" = some (.type "reversed") := by decide +kernel
theorem k_zip : nsIn (topK P) mainGlobals "zip" = some none := by kernel_rfl
theorem bb_zip : bootBuiltins "zip" = some (.type "zip") := by decide +kernel
theorem k_sum : nsIn (topK P) mainGlobals "sum" = some none := by kernel_rfl
theorem bb_sum : bootBuiltins "sum" = some (.builtin "sum") := by decide +kernel
theorem k_sorted : nsIn (topK P) mainGlobals "sorted" = some none := by kernel_rfl
theorem bb_sorted : bootBuiltins "sorted" = some (.builtin "sorted") := by decide +kernel
theorem k_min : nsIn (topK P) mainGlobals "min" = some none := by kernel_rfl
theorem bb_min : bootBuiltins "min" = some (.builtin "min") := by decide +kernel
theorem k_object : nsIn (topK P) mainGlobals "object" = some none := by kernel_rfl
theorem bb_object : bootBuiltins "object" = some (.type "object") := by decide +kernel
theorem bb_bc : bootBuiltins "__build_class__" = some (.builtin "__build_class__") := by decide +kernel
theorem t_ctk : tabIn (topK P) "cmp_to_key" = some (80, 76) := by kernel_rfl
theorem t_keys : tabIn (topK P) "_law_keys" = some (92, 90) := by kernel_rfl
theorem k_name : ((nsIn (topK P) mainGlobals "__name__").bind id).isSome = true := by kernel_rfl
theorem k_imp : importsNone hd.view_39 = true := by kernel_rfl
theorem k_st : ((topK P).lookup cStatics).map (fun o => lookIn "thirdparty.any" o) = some (some none) := by kernel_rfl
end
section
variable {h : Heap} {tabs : List (Addr × Addr)}
theorem rec_ghost (hT : TabsAt tabs h) {cv : Value} {q : Str} (x : h.CodeRec cv q) : (ghostOf h tabs).CodeRec cv q := by
  obtain ⟨c, o, vs, t, e1, e2, e3, e4⟩ := x
  exact ⟨c, o, vs, t, e1, ghost_get hT e2 (fun z => by rw [z] at e3; cases e3; cases e4), e3, e4⟩
theorem fn_ghost (hT : TabsAt tabs h) {a : Addr} {i : Nat} {x : Str} (y : FnAt h a i x) : FnAt (ghostOf h tabs) a i x := by
  obtain ⟨o, pm, cd, doc, e, d, c⟩ := y
  exact ⟨o, pm, cd, doc, ghost_get hT e (fun z => by rw [z] at d; cases d), d, rec_ghost hT c⟩
end
/-- the ground of law -/
theorem sta2_top {w : World} {loose : List Str} {mean : ExcName → Option Value} {mg mb : Str → Option Value} {h : Heap} (T : Top hd.view_39 loose mean mg mb h) (X : (topK w.params).In h) :
    TabsAt [(80, 76), (92, 90)] h ∧ Sta2 mg mb (ghostOf h [(80, 76), (92, 90)]) ∧ mg "law" = some (.ref 117) ∧ FnAt (ghostOf h [(80, 76), (92, 90)]) 117 17 "law" := by
  obtain ⟨⟨c80, e76⟩, f80⟩ := fn_code T X k10_in r10_in t_ctk
  obtain ⟨⟨c92, e90⟩, f92⟩ := fn_code T X k13_in r13_in t_keys
  have hT : TabsAt [(80, 76), (92, 90)] h := by
    intro q hq
    rcases List.mem_cons.mp hq with rfl | hq
    · exact ⟨c80, e76⟩
    · obtain rfl := List.mem_singleton.mp hq
      exact ⟨c92, e90⟩
  have T' := ghost_top hT T
  have CH := ghost_code hT
  have f80' : FnC (ghostOf h [(80, 76), (92, 90)]) 81 80 10 "cmp_to_key" := by
    obtain ⟨o, pm, doc, e, d, c⟩ := f80
    exact ⟨o, pm, doc, ghost_get hT e (fun z => by rw [z] at d; cases d), d, rec_ghost hT c⟩
  have f92' : FnC (ghostOf h [(80, 76), (92, 90)]) 93 92 13 "_law_keys" := by
    obtain ⟨o, pm, doc, e, d, c⟩ := f92
    exact ⟨o, pm, doc, ghost_get hT e (fun z => by rw [z] at d; cases d), d, rec_ghost hT c⟩
  obtain ⟨g1, f1⟩ := fn_top T X k1_in r1_in
  obtain ⟨g2, f2⟩ := fn_top T X k2_in r2_in
  obtain ⟨g3, f3⟩ := fn_top T X k3_in r3_in
  obtain ⟨g4, f4⟩ := fn_top T X k4_in r4_in
  obtain ⟨g8, f8⟩ := fn_top T X k8_in r8_in
  obtain ⟨g12, f12⟩ := fn_top T X k12_in r12_in
  obtain ⟨g14, f14⟩ := fn_top T X k14_in r14_in
  obtain ⟨g15, f15⟩ := fn_top T X k15_in r15_in
  obtain ⟨g16, f16⟩ := fn_top T X k16_in r16_in
  obtain ⟨g17, f17⟩ := fn_top T X k17_in r17_in
  refine ⟨hT, ?_, g17, fn_ghost hT f17⟩
  exact {
    G := T'.g
    B := T'.b
    lim := T'.nolimit
    b_len := ⟨mg_none_of X T.g k_len, (T.builtins _ (by decide)).trans bb_len⟩
    b_range := ⟨mg_none_of X T.g k_range, (T.builtins _ (by decide)).trans bb_range⟩
    b_reversed := ⟨mg_none_of X T.g k_reversed, (T.builtins _ (by decide)).trans bb_reversed⟩
    b_zip := ⟨mg_none_of X T.g k_zip, (T.builtins _ (by decide)).trans bb_zip⟩
    b_sum := ⟨mg_none_of X T.g k_sum, (T.builtins _ (by decide)).trans bb_sum⟩
    b_sorted := ⟨mg_none_of X T.g k_sorted, (T.builtins _ (by decide)).trans bb_sorted⟩
    b_min := ⟨mg_none_of X T.g k_min, (T.builtins _ (by decide)).trans bb_min⟩
    g_push := g1
    f_push := fn_ghost hT f1
    g_heapify := g2
    f_heapify := fn_ghost hT f2
    g_sd := g3
    f_sd := fn_ghost hT f3
    g_su := g4
    f_su := fn_ghost hT f4
    g_parse := g8
    f_parse := fn_ghost hT f8
    g_halves := g12
    f_halves := fn_ghost hT f12
    g_made := g14
    f_made := fn_ghost hT f14
    g_held := g15
    f_held := fn_ghost hT f15
    g_pushes := g16
    f_pushes := fn_ghost hT f16
    g_ctk := mg_of X T.g k10_in
    g_keys := mg_of X T.g k13_in
    g_name := name_in T X k_name
    bm := T'.bmain
    b_object := ⟨mg_none_of X T.g k_object, (T.builtins _ (by decide)).trans bb_object⟩
    b_bc := (T.builtins _ (by decide)).trans bb_bc
    tp := by
      obtain ⟨o, e, l⟩ := look_in X k_st
      exact ⟨o, ghost_ne e (by decide), l⟩
    sys := by
      obtain ⟨mm, ⟨o, es, ep, e, _⟩, _⟩ := (T.seer k_imp).mods
      exact ⟨o, ghost_ne e (by decide)⟩
    c80 := CH.1
    c92 := CH.2.1
    f_ctk := f80'
    f_keys := f92' }
set_option maxHeartbeats 8000000 in
theorem fin : PySem.Challenge.rw_oy0030_01.Holds := by
  refine hd ?_
  intro w s₀ s₁ mg mb G Y fa o pm cd doc dV kV ho hdd hcd hDf hmg hg args vals as hpre hlay hrd hwl hlo
  have KX := kIn_of Y
  refine Ground.open G ?_
  intro T B D TE TW
  obtain ⟨hT, S, gl, fl⟩ := sta2_top (w := w) T KX
  have hfa : fa = 117 := Value.ref.inj (Option.some.inj ((show mg "law" = some (.ref fa) from hmg).symm.trans gl))
  subst hfa
  clear ho hdd hcd hDf hmg
  wrow_args hpre hlay hrd hwl hlo
  rename_i ns _ _ _ _ _ _ _ a vs _ hL ra w1 r0 hI hr hc1 hc2
  refine enter_call ?_
  refine kn_post (tabs := [(80, 76), (92, 90)]) hT (fun _ _ => rfl) ?_
  have e76 : s₁.heap.get? 76 = some (tabObj #[]) := (hT (80, 76) (by simp)).2
  have e90 : s₁.heap.get? 90 = some (tabObj #[]) := (hT (92, 90) (by simp)).2
  refine law1 (g := ghostOf s₁.heap [(80, 76), (92, 90)]) rfl (by decide +kernel) (by decide +kernel) S fl (has_hide s₁.heap [76, 90]) (cls_empty e76) (tab_empty e90) hL (.of_are hI) (by omega) ?_
  intro h' tk H T1 T2
  obtain ⟨ps1, q1, _⟩ := T1
  obtain ⟨ps2, q2, _⟩ := T2
  refine ⟨⟨.inl ⟨.bool true, .bool true, [], rfl, fun _ => rfl, .bool _, ?_, fun _ => ⟨.nil, fun a ha => nomatch ha⟩⟩, H.keep, rfl, hg⟩, ⟨ps1, q1⟩, ⟨ps2, q2⟩, trivial⟩
  first | wrow_post | rfl | kernel_rfl
end Mine

end
theorem PySem.Challenge.cw_oy0030_01_holds : PySem.Challenge.rw_oy0030_01.Holds := by
  exact Mine.fin
