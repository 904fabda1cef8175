import PyProof.Rows.All
import Wide.All
import OpenK.AllK
import Wide.FinOn
import PySem.Challenge.RW_fp5022_01
set_option Elab.async false

section
set_option maxRecDepth 100000
namespace Mine

/-- the fewest edits between the first i signs of f and the first j of g -/
def DD (f g : Nat → Nat) : Nat → Nat → Nat
  | 0, j => j
  | i + 1, 0 => i + 1
  | i + 1, j + 1 => if f i = g j then DD f g i j else 1 + min (DD f g i j) (min (DD f g i (j + 1)) (DD f g (i + 1) j))
termination_by i j => i + j

section
variable {f g : Nat → Nat}
theorem dd0 (j : Nat) : DD f g 0 j = j := by unfold DD; rfl
theorem dd_0 (i : Nat) : DD f g i 0 = i := by cases i <;> (unfold DD; rfl)
theorem dd_eq {i j : Nat} (h : f i = g j) : DD f g (i + 1) (j + 1) = DD f g i j := by rw [DD, if_pos h]
theorem dd_ne {i j : Nat} (h : f i ≠ g j) : DD f g (i + 1) (j + 1) = 1 + min (DD f g i j) (min (DD f g i (j + 1)) (DD f g (i + 1) j)) := by rw [DD, if_neg h]

theorem dd_lip : ∀ (n i j : Nat), i + j ≤ n →
    DD f g (i + 1) j ≤ DD f g i j + 1 ∧ DD f g i j ≤ DD f g (i + 1) j + 1 ∧ DD f g i (j + 1) ≤ DD f g i j + 1 ∧ DD f g i j ≤ DD f g i (j + 1) + 1 := by
  intro n
  induction n with
  | zero =>
    intro i j h
    have hi : i = 0 := by omega
    have hj : j = 0 := by omega
    subst hi; subst hj
    rw [dd0, dd_0, dd0]
    omega
  | succ n ih =>
    intro i j h
    have A : DD f g (i + 1) j ≤ DD f g i j + 1 ∧ DD f g i j ≤ DD f g (i + 1) j + 1 := by
      cases j with
      | zero => rw [dd_0, dd_0]; omega
      | succ j =>
        have q := ih i j (by omega)
        by_cases e : f i = g j
        · rw [dd_eq e]; omega
        · rw [dd_ne e]; omega
    have B : DD f g i (j + 1) ≤ DD f g i j + 1 ∧ DD f g i j ≤ DD f g i (j + 1) + 1 := by
      cases i with
      | zero => rw [dd0, dd0]; omega
      | succ i =>
        have q := ih i j (by omega)
        by_cases e : f i = g j
        · rw [dd_eq e]; omega
        · rw [dd_ne e]; omega
    omega

theorem dd_diag (i j : Nat) : DD f g i j ≤ DD f g (i + 1) (j + 1) ∧ DD f g (i + 1) (j + 1) ≤ DD f g i j + 1 := by
  have q := dd_lip (f := f) (g := g) (i + j) i j (Nat.le_refl _)
  by_cases e : f i = g j
  · rw [dd_eq e]; omega
  · rw [dd_ne e]; omega
theorem dd_diags (i j : Nat) : ∀ k, DD f g i j ≤ DD f g (i + k) (j + k)
  | 0 => Nat.le_refl _
  | k + 1 => Nat.le_trans (dd_diags i j k) (dd_diag (i + k) (j + k)).1
theorem dd_low : ∀ i j : Nat, i ≤ DD f g i j + j ∧ j ≤ DD f g i j + i
  | 0, j => by rw [dd0]; omega
  | i + 1, j => by
    have q := dd_lip (f := f) (g := g) (i + j) i j (Nat.le_refl _)
    have r := dd_low i j
    cases j with
    | zero => rw [dd_0]; omega
    | succ j =>
      have r2 := dd_low i j
      have r3 := dd_diag (f := f) (g := g) i j
      omega
theorem dd_high : ∀ i j : Nat, DD f g i j ≤ max i j
  | 0, j => by rw [dd0]; omega
  | i + 1, 0 => by rw [dd_0]; omega
  | i + 1, j + 1 => by
    have r := dd_high i j
    have r3 := dd_diag (f := f) (g := g) i j
    omega
/-- where the first signs are unlike, the main diagonal costs one -/
theorem dd_first (h : f 0 ≠ g 0) (i : Nat) (hi : 1 ≤ i) : 1 ≤ DD f g i i := by
  have q := dd_diags (f := f) (g := g) 1 1 (i - 1)
  rw [show 1 + (i - 1) = i by omega] at q
  have e : DD f g (0 + 1) (0 + 1) = _ := dd_ne h
  simp only [Nat.zero_add] at e
  omega

/-- what a cell's number says -/
def Cell (f g : Nat → Nat) (d b : Int) (i j : Nat) (v : Int) : Prop :=
  min (DD f g i j : Int) (b + 1) ≤ v ∧ ((DD f g i j : Int) + (d - (j - i)) ≤ b → (DD f g i j : Int) + ((j - i : Int) - d) ≤ b → v ≤ DD f g i j)

theorem cell_step {d b : Int} {i j : Nat} {p l u v : Int}
    (hp : Cell f g d b i j p) (hl : min (min (DD f g i j : Int) (DD f g (i + 1) j)) (b + 1) ≤ l) (hl2 : (DD f g (i + 1) j : Int) + (d - (j - (i + 1 : Nat))) ≤ b → (DD f g (i + 1) j : Int) + ((j - (i + 1 : Nat) : Int) - d) ≤ b → l ≤ DD f g (i + 1) j)
    (hu : Cell f g d b i (j + 1) u) (hv : (f i = g j ∧ v = p) ∨ (f i ≠ g j ∧ v = 1 + min (min p l) u)) : Cell f g d b (i + 1) (j + 1) v := by
  obtain ⟨p1, p2⟩ := hp
  obtain ⟨u1, u2⟩ := hu
  unfold Cell
  rcases hv with ⟨e, rfl⟩ | ⟨e, rfl⟩
  · rw [dd_eq e]
    exact ⟨p1, fun a b => p2 (by omega) (by omega)⟩
  · rw [dd_ne e]
    have hd := dd_lip (f := f) (g := g) (i + j) i j (Nat.le_refl _)
    generalize DD f g i j = A at *
    generalize DD f g i (j + 1) = B at *
    generalize DD f g (i + 1) j = C at *
    have hm : min A (min B C) ≤ A ∧ min A (min B C) ≤ B ∧ min A (min B C) ≤ C ∧ (min A (min B C) = A ∨ min A (min B C) = B ∨ min A (min B C) = C) := by omega
    generalize min A (min B C) = m at *
    have hw : min (min p l) u ≤ p ∧ min (min p l) u ≤ l ∧ min (min p l) u ≤ u ∧ (min (min p l) u = p ∨ min (min p l) u = l ∨ min (min p l) u = u) := by omega
    generalize min (min p l) u = w at *
    obtain ⟨m1, m2, m3, m4⟩ := hm
    obtain ⟨w1, w2, w3, w4⟩ := hw
    refine ⟨?_, fun a c => ?_⟩
    · have : (m : Int) ≤ w ∨ b ≤ w := by
        clear p2 u2 hl2
        rcases w4 with rfl | rfl | rfl
        · omega
        · omega
        · omega
      omega
    · rcases m4 with rfl | rfl | rfl
      · have := p2 (by omega) (by omega)
        omega
      · have := u2 (by omega) (by omega)
        omega
      · have := hl2 (by omega) (by omega)
        omega

/-- the working row ahead of row i's turn -/
def RowI (f g : Nat → Nat) (d b : Int) (M : Nat) (i : Nat) (lo : Int) (ns : List Int) : Prop :=
  ns.length = M ∧ (∀ j : Nat, lo ≤ j → j < M → Cell f g d b i (j + 1) (ns.getD j 0)) ∧ ∀ j : Nat, b + i ≤ j → j < M → ns.getD j 0 = b + 1
/-- within a turn: row i + 1 up to j, row i from j on -/
def Mid (f g : Nat → Nat) (d b : Int) (M : Nat) (i : Nat) (lo : Int) (j : Nat) (ns : List Int) (p l cu : Int) : Prop :=
  ns.length = M ∧ (∀ j' : Nat, lo ≤ j' → j' < j → Cell f g d b (i + 1) (j' + 1) (ns.getD j' 0)) ∧ (∀ j' : Nat, j ≤ j' → j' < M → Cell f g d b i (j' + 1) (ns.getD j' 0)) ∧
  (∀ j' : Nat, b + i + 1 ≤ j' → j' < M → ns.getD j' 0 = b + 1) ∧ Cell f g d b i j p ∧ min (min (DD f g i j : Int) (DD f g (i + 1) j)) (b + 1) ≤ l ∧
  ((DD f g (i + 1) j : Int) + (d - (j - (i + 1 : Nat))) ≤ b → (DD f g (i + 1) j : Int) + ((j - (i + 1 : Nat) : Int) - d) ≤ b → l ≤ DD f g (i + 1) j) ∧ (lo < j → cu = ns.getD (j - 1) 0)

theorem getD_set {ns : List Int} {j k : Nat} {v : Int} (h : j < ns.length) : (ns.set j v).getD k 0 = if k = j then v else ns.getD k 0 := by
  rw [List.getD_eq_getElem?_getD, List.getD_eq_getElem?_getD, List.getElem?_set]
  by_cases e : j = k
  · subst e; simp [h]
  · have e' : ¬ k = j := fun q => e q.symm
    simp [e, e']

theorem mid_step {d b lo : Int} {M i j : Nat} {ns : List Int} {p l cu v : Int} (hM : Mid f g d b M i lo j ns p l cu) (hj : j < M) (hlo : lo ≤ j) (hb : (j : Int) ≤ b + i)
    (hv : (f i = g j ∧ v = p) ∨ (f i ≠ g j ∧ v = 1 + min (min p l) (ns.getD j 0))) : Mid f g d b M i lo (j + 1) (ns.set j v) (ns.getD j 0) v v := by
  obtain ⟨a1, a2, a3, a4, a5, a6, a7, a8⟩ := hM
  have hc : Cell f g d b (i + 1) (j + 1) v := cell_step a5 a6 a7 (a3 j (Nat.le_refl _) hj) hv
  have hjl : j < ns.length := by omega
  refine ⟨by rw [List.length_set]; exact a1, ?_, ?_, ?_, a3 j (Nat.le_refl _) hj, ?_, hc.2, ?_⟩
  · intro k h1 h2
    rw [getD_set hjl]
    by_cases e : k = j
    · subst e; rw [if_pos rfl]; exact hc
    · rw [if_neg e]; exact a2 k h1 (by omega)
  · intro k h1 h2
    rw [getD_set hjl, if_neg (by omega)]
    exact a3 k (by omega) h2
  · intro k h1 h2
    rw [getD_set hjl, if_neg (by omega)]
    exact a4 k h1 h2
  · have := hc.1; omega
  · intro _
    rw [getD_set hjl, if_pos (by omega)]

/-- the first row -/
theorem row_start {d b : Int} {M : Nat} {ns : List Int} (hl : ns.length = M) (hn : ∀ j : Nat, j < M → ns.getD j 0 = if (j : Int) < b then (j : Int) + 1 else b + 1) : RowI f g d b M 0 0 ns := by
  refine ⟨hl, fun j _ h2 => ?_, fun j h1 h2 => ?_⟩
  · rw [hn j h2]
    unfold Cell
    rw [dd0]
    by_cases c : (j : Int) < b
    · rw [if_pos c]; refine ⟨by omega, fun _ _ => by omega⟩
    · rw [if_neg c]; refine ⟨by omega, fun _ _ => by omega⟩
  · rw [hn j h2, if_neg (by omega)]

/-- a turn's start -/
theorem mid_start {d b lo lo' : Int} {M i : Nat} {ns : List Int} {cu : Int} (hf : f 0 ≠ g 0) (hdb : d ≤ b) (hR : RowI f g d b M i lo ns) (hlo : lo ≤ lo') (h' : lo' = max 0 (i - (b - d))) :
    Mid f g d b M i lo' lo'.toNat ns i i cu := by
  obtain ⟨a1, a2, a3⟩ := hR
  have hi : lo'.toNat ≤ i := by omega
  have hh := dd_high (f := f) (g := g) i lo'.toNat
  have hw := dd_low (f := f) (g := g) i lo'.toNat
  have h0 : (DD f g i lo'.toNat : Int) + (d - ((lo'.toNat : Int) - i)) ≤ b → (i : Int) ≤ DD f g i lo'.toNat := by
    intro c
    by_cases z : lo' = 0
    · subst z
      have : DD f g i (0 : Int).toNat = i := dd_0 i
      omega
    · have q := dd_first hf i (by omega)
      have e : lo'.toNat = i := by omega
      rw [e] at c ⊢
      omega
  have h1 : (DD f g (i + 1) lo'.toNat : Int) + (d - ((lo'.toNat : Int) - (i + 1 : Nat))) ≤ b → (i : Int) ≤ DD f g (i + 1) lo'.toNat := by
    intro c
    by_cases z : lo' = 0
    · subst z
      have : DD f g (i + 1) (0 : Int).toNat = i + 1 := dd_0 (i + 1)
      omega
    · omega
  refine ⟨a1, fun j h1 h2 => by omega, fun j h1 h2 => a2 j (by omega) h2, fun j h1 h2 => a3 j (by omega) h2, ⟨by omega, fun c _ => h0 c⟩, by omega, fun c _ => h1 c, fun h => by omega⟩

/-- a turn's end -/
theorem mid_end {d b lo : Int} {M i j : Nat} {ns : List Int} {p l cu : Int} (hM : Mid f g d b M i lo j ns p l cu) (hj : (j : Int) = min (b + i + 1) M) : RowI f g d b M (i + 1) lo ns := by
  obtain ⟨a1, a2, a3, a4, a5, a6, a7, a8⟩ := hM
  refine ⟨a1, fun k h1 h2 => ?_, fun k h1 h2 => a4 k (by omega) h2⟩
  by_cases e : k < j
  · exact a2 k h1 e
  · rw [a4 k (by omega) h2]
    have hw := dd_low (f := f) (g := g) (i + 1) (k + 1)
    exact ⟨by omega, fun c c' => by omega⟩

/-- the goal's diagonal over the bound: so the whole is -/
theorem over_bound {d b lo : Int} {N M i : Nat} {ns : List Int} (hR : RowI f g d b M (i + 1) lo ns) (hi : i < N) (hd : (M : Int) - N = d) (hd0 : 0 ≤ d) (hlo : lo ≤ i + d) (hv : b < ns.getD (i + d).toNat 0) : b < (DD f g N M : Int) := by
  have hc := hR.2.1 (i + d).toNat (by omega) (by omega)
  have q := dd_diags (f := f) (g := g) (i + 1) ((i + d).toNat + 1) (N - (i + 1))
  rw [show i + 1 + (N - (i + 1)) = N by omega, show (i + d).toNat + 1 + (N - (i + 1)) = M by omega] at q
  have q2 := hc.2
  omega

/-- the last cell tells the whole -/
theorem fin_cell {d b lo cu : Int} {N M : Nat} {ns : List Int} (hR : RowI f g d b M N lo ns) (hM : 1 ≤ M) (hlo : lo ≤ (M : Int) - 1) (hd : (M : Int) - N = d) (hc : cu = ns.getD (M - 1) 0) :
    (if (DD f g N M : Int) ≤ b then (DD f g N M : Int) else -1) = if cu ≤ b then cu else -1 := by
  have q := hR.2.1 (M - 1) (by omega) (by omega)
  rw [← hc, show M - 1 + 1 = M by omega] at q
  obtain ⟨q1, q2⟩ := q
  by_cases e : (DD f g N M : Int) ≤ b
  · have := q2 (by omega) (by omega)
    rw [if_pos e, if_pos (by omega)]
    omega
  · rw [if_neg e, if_neg (by omega)]
end
end Mine

end

section
namespace Mine
/-- the edits between the first i and the first j, over ints -/
def DZ (f g : Nat → Nat) (i j : Int) : Int := DD f g i.toNat j.toNat
section
variable {f g : Nat → Nat} {i j k e N M : Int}
theorem up_nat (h : 0 ≤ i) : (i + 1).toNat = i.toNat + 1 := by omega
theorem z_lip (hi : 0 ≤ i) (hj : 0 ≤ j) : DZ f g (i + 1) j ≤ DZ f g i j + 1 ∧ DZ f g i j ≤ DZ f g (i + 1) j + 1 ∧ DZ f g i (j + 1) ≤ DZ f g i j + 1 ∧ DZ f g i j ≤ DZ f g i (j + 1) + 1 := by
  have q := dd_lip (f := f) (g := g) (i.toNat + j.toNat) i.toNat j.toNat (Nat.le_refl _)
  unfold DZ
  rw [up_nat hi, up_nat hj]
  omega
theorem z_diag (hi : 0 ≤ i) (hj : 0 ≤ j) : DZ f g i j ≤ DZ f g (i + 1) (j + 1) ∧ DZ f g (i + 1) (j + 1) ≤ DZ f g i j + 1 := by
  have q := dd_diag (f := f) (g := g) i.toNat j.toNat
  unfold DZ
  rw [up_nat hi, up_nat hj]
  omega
theorem z_diags (hi : 0 ≤ i) (hj : 0 ≤ j) (hk : 0 ≤ k) : DZ f g i j ≤ DZ f g (i + k) (j + k) := by
  have q := dd_diags (f := f) (g := g) i.toNat j.toNat k.toNat
  unfold DZ
  rw [show (i + k).toNat = i.toNat + k.toNat by omega, show (j + k).toNat = j.toNat + k.toNat by omega]
  omega
theorem z_low (hi : 0 ≤ i) (hj : 0 ≤ j) : i ≤ DZ f g i j + j ∧ j ≤ DZ f g i j + i := by
  have q := dd_low (f := f) (g := g) i.toNat j.toNat
  unfold DZ
  omega
theorem z_eq (hi : 0 ≤ i) (hj : 0 ≤ j) (h : f i.toNat = g j.toNat) : DZ f g (i + 1) (j + 1) = DZ f g i j := by
  unfold DZ
  rw [up_nat hi, up_nat hj, dd_eq h]
theorem z_ne (hi : 0 ≤ i) (hj : 0 ≤ j) (h : f i.toNat ≠ g j.toNat) : DZ f g (i + 1) (j + 1) = 1 + min (DZ f g i j) (min (DZ f g i (j + 1)) (DZ f g (i + 1) j)) := by
  unfold DZ
  rw [up_nat hi, up_nat hj, dd_ne h]
  omega
theorem z_0 (hj : 0 ≤ j) : DZ f g 0 j = j := by
  unfold DZ
  rw [show (0 : Int).toNat = 0 from rfl, dd0]
  omega
theorem z_0' (hi : 0 ≤ i) : DZ f g i 0 = i := by
  unfold DZ
  rw [show (0 : Int).toNat = 0 from rfl, dd_0]
  omega

/-- what the table says of a diagonal: how far e edits reach on it -/
def Entry (f g : Nat → Nat) (N M e k : Int) : Option Int → Prop
  | none => ∀ i, 0 ≤ i → i ≤ N → 0 ≤ i + k → i + k ≤ M → e < DZ f g i (i + k)
  | some v => 0 ≤ v ∧ v ≤ N ∧ 0 ≤ v + k ∧ v + k ≤ M ∧ DZ f g v (v + k) ≤ e ∧ ∀ i, 0 ≤ i → i ≤ N → 0 ≤ i + k → i + k ≤ M → DZ f g i (i + k) ≤ e → i ≤ v
def SlidF (f g : Nat → Nat) (N M i k v : Int) : Prop :=
  i ≤ v ∧ (∀ j, i ≤ j → j < v → j < N ∧ j + k < M ∧ f j.toNat = g (j + k).toNat) ∧ (v < N → v + k < M → f v.toNat ≠ g (v + k).toNat)

theorem slid_same {v : Int} (hi : 0 ≤ i) (hik : 0 ≤ i + k) (h : ∀ j, i ≤ j → j < v → j < N ∧ j + k < M ∧ f j.toNat = g (j + k).toNat) : ∀ n : Nat, i + n ≤ v → DZ f g (i + n) (i + n + k) = DZ f g i (i + k)
  | 0, _ => by rw [show i + ((0 : Nat) : Int) = i by omega]
  | n + 1, hn => by
    have ih := slid_same hi hik h n (by omega)
    obtain ⟨_, _, q⟩ := h (i + n) (by omega) (by omega)
    have e := z_eq (f := f) (g := g) (i := i + n) (j := i + n + k) (by omega) (by omega) q
    rw [← ih, ← e]
    congr 1 <;> omega

theorem slid_in {v : Int} (hs : SlidF f g N M i k v) (h1 : i ≤ N) (h2 : i + k ≤ M) : v ≤ N ∧ v + k ≤ M := by
  by_cases c : i < v
  · obtain ⟨a, b, _⟩ := hs.2.1 (v - 1) (by omega) (by omega)
    omega
  · have := hs.1; omega

/-- the start: no edits -/
theorem entry_start {v : Int} (hN : 0 ≤ N) (hM : 0 ≤ M) (hs : SlidF f g N M 0 0 v) : Entry f g N M 0 0 (some v) := by
  obtain ⟨q1, q2⟩ := slid_in hs hN (by omega)
  have h0 := hs.1
  have sm := slid_same (i := 0) (k := 0) (by omega) (by omega) hs.2.1 v.toNat (by omega)
  rw [show (0 : Int) + (v.toNat : Int) = v by omega, show (0 : Int) + 0 = 0 by omega, z_0 (by omega)] at sm
  refine ⟨by omega, q1, by omega, q2, by omega, fun i a b c d hle => ?_⟩
  by_cases hc : i ≤ v
  · exact hc
  · have hne := hs.2.2 (by omega) (by omega)
    have e1 := z_ne (f := f) (g := g) (i := v) (j := v + 0) (by omega) (by omega) hne
    have e2 := z_diags (f := f) (g := g) (i := v + 1) (j := v + 0 + 1) (k := i - (v + 1)) (by omega) (by omega) (by omega)
    rw [show v + 1 + (i - (v + 1)) = i by omega, show v + 0 + 1 + (i - (v + 1)) = i + 0 by omega] at e2
    have l1 := z_low (f := f) (g := g) (i := v) (j := v + 0) (by omega) (by omega)
    have l2 := z_low (f := f) (g := g) (i := v) (j := v + 0 + 1) (by omega) (by omega)
    have l3 := z_low (f := f) (g := g) (i := v + 1) (j := v + 0) (by omega) (by omega)
    rw [show v + 0 = v by omega] at *
    omega
theorem entry_far (he : e < k ∨ e < -k) : Entry f g N M e k none := by
  intro i a b c d
  have l := z_low (f := f) (g := g) (i := i) (j := i + k) a c
  omega

theorem entry_slid {F : Int → Option Int} {v : Int} (hI : ∀ k, Entry f g N M e k (F k)) (hi : i = min (min (max (max ((F k).getD (-9) + 1) ((F (k - 1)).getD (-9))) ((F (k + 1)).getD (-9) + 1)) N) (M - k)) (h0 : 0 ≤ i) (h1 : 0 ≤ i + k) (hs : SlidF f g N M i k v) :
    Entry f g N M (e + 1) k (some v) := by
  have ea := hI k
  have eb := hI (k - 1)
  have ec := hI (k + 1)
  obtain ⟨q1, q2⟩ := slid_in hs (by omega) (by omega)
  have hle := hs.1
  have sm := slid_same h0 h1 hs.2.1 (v - i).toNat (by omega)
  rw [show i + ((v - i).toNat : Int) = v by omega] at sm
  -- the start's cost
  have hst : DZ f g i (i + k) ≤ e + 1 := by
    have hw : (∃ z, F k = some z ∧ i ≤ z + 1) ∨ (∃ z, F (k - 1) = some z ∧ i ≤ z) ∨ (∃ z, F (k + 1) = some z ∧ i ≤ z + 1) := by
      cases ha : F k with
      | some z =>
        by_cases c : i ≤ z + 1
        · exact .inl ⟨z, rfl, c⟩
        · right
          cases hb : F (k - 1) with
          | some z' =>
            by_cases c' : i ≤ z'
            · exact .inl ⟨z', rfl, c'⟩
            · right
              cases hc : F (k + 1) with
              | some z'' => rw [ha, hb, hc] at hi; simp only [Option.getD] at hi; exact ⟨z'', rfl, by omega⟩
              | none => rw [ha, hb, hc] at hi; simp only [Option.getD] at hi; omega
          | none =>
            right
            cases hc : F (k + 1) with
            | some z'' => rw [ha, hb, hc] at hi; simp only [Option.getD] at hi; exact ⟨z'', rfl, by omega⟩
            | none => rw [ha, hb, hc] at hi; simp only [Option.getD] at hi; omega
      | none =>
        right
        cases hb : F (k - 1) with
        | some z' =>
          by_cases c' : i ≤ z'
          · exact .inl ⟨z', rfl, c'⟩
          · right
            cases hc : F (k + 1) with
            | some z'' => rw [ha, hb, hc] at hi; simp only [Option.getD] at hi; exact ⟨z'', rfl, by omega⟩
            | none => rw [ha, hb, hc] at hi; simp only [Option.getD] at hi; omega
        | none =>
          right
          cases hc : F (k + 1) with
          | some z'' => rw [ha, hb, hc] at hi; simp only [Option.getD] at hi; exact ⟨z'', rfl, by omega⟩
          | none => rw [ha, hb, hc] at hi; simp only [Option.getD] at hi; omega
    rcases hw with ⟨z, hz, hc⟩ | ⟨z, hz, hc⟩ | ⟨z, hz, hc⟩
    · rw [hz] at ea
      obtain ⟨a1, a2, a3, a4, a5, _⟩ := ea
      have d1 := z_diag (f := f) (g := g) (i := z) (j := z + k) a1 a3
      have d2 := z_diags (f := f) (g := g) (i := i) (j := i + k) (k := z + 1 - i) h0 h1 (by omega)
      rw [show i + (z + 1 - i) = z + 1 by omega, show i + k + (z + 1 - i) = z + k + 1 by omega] at d2
      omega
    · rw [hz] at eb
      obtain ⟨a1, a2, a3, a4, a5, _⟩ := eb
      have d1 := z_lip (f := f) (g := g) (i := z) (j := z + (k - 1)) a1 a3
      have d2 := z_diags (f := f) (g := g) (i := i) (j := i + k) (k := z - i) h0 h1 (by omega)
      rw [show i + (z - i) = z by omega, show i + k + (z - i) = z + (k - 1) + 1 by omega] at d2
      omega
    · rw [hz] at ec
      obtain ⟨a1, a2, a3, a4, a5, _⟩ := ec
      have d1 := z_lip (f := f) (g := g) (i := z) (j := z + (k + 1)) a1 a3
      have d2 := z_diags (f := f) (g := g) (i := i) (j := i + k) (k := z + 1 - i) h0 h1 (by omega)
      rw [show i + (z + 1 - i) = z + 1 by omega, show i + k + (z + 1 - i) = z + (k + 1) by omega] at d2
      omega
  refine ⟨by omega, q1, by omega, q2, by omega, fun i' a b c d hle' => ?_⟩
  by_cases hc : i' ≤ v
  · exact hc
  · exfalso
    have hne := hs.2.2 (by omega) (by omega)
    have e1 := z_ne (f := f) (g := g) (i := v) (j := v + k) (by omega) (by omega) hne
    have e2 := z_diags (f := f) (g := g) (i := v + 1) (j := v + k + 1) (k := i' - (v + 1)) (by omega) (by omega) (by omega)
    rw [show v + 1 + (i' - (v + 1)) = i' by omega, show v + k + 1 + (i' - (v + 1)) = i' + k by omega] at e2
    have h3 : DZ f g v (v + k) ≤ e ∨ DZ f g v (v + k + 1) ≤ e ∨ DZ f g (v + 1) (v + k) ≤ e := by omega
    rcases h3 with h3 | h3 | h3
    · cases ha : F k with
      | none => rw [ha] at ea; have := ea v (by omega) (by omega) (by omega) (by omega); omega
      | some z =>
        rw [ha] at ea hi
        have := ea.2.2.2.2.2 v (by omega) (by omega) (by omega) (by omega) h3
        simp only [Option.getD_some] at hi
        omega
    · rw [show v + k + 1 = v + (k + 1) by omega] at h3
      cases ha : F (k + 1) with
      | none => rw [ha] at ec; have := ec v (by omega) (by omega) (by omega) (by omega); omega
      | some z =>
        rw [ha] at ec hi
        have := ec.2.2.2.2.2 v (by omega) (by omega) (by omega) (by omega) h3
        simp only [Option.getD_some] at hi
        omega
    · rw [show v + k = v + 1 + (k - 1) by omega] at h3
      cases ha : F (k - 1) with
      | none => rw [ha] at eb; have := eb (v + 1) (by omega) (by omega) (by omega) (by omega); omega
      | some z =>
        rw [ha] at eb hi
        have := eb.2.2.2.2.2 (v + 1) (by omega) (by omega) (by omega) (by omega) h3
        simp only [Option.getD_some] at hi
        omega

theorem entry_miss {F : Int → Option Int} (he : 0 ≤ e) (hI : ∀ k, Entry f g N M e k (F k)) (hi : i = min (min (max (max ((F k).getD (-9) + 1) ((F (k - 1)).getD (-9))) ((F (k + 1)).getD (-9) + 1)) N) (M - k)) (h : ¬ (0 ≤ i ∧ 0 ≤ i + k)) :
    Entry f g N M (e + 1) k none := by
  intro i' a b c d
  by_cases hle : e + 1 < DZ f g i' (i' + k)
  · exact hle
  · exfalso
    apply h
    by_cases hk : 0 ≤ k
    · -- the diagonal begins at (0, k)
      have s := z_diags (f := f) (g := g) (i := 0) (j := k) (k := i') (by omega) hk a
      rw [show (0 : Int) + i' = i' by omega, show k + i' = i' + k by omega, z_0 hk] at s
      by_cases hk0 : k = 0
      · subst hk0
        have e0 := hI 0
        cases ha : F 0 with
        | none => rw [ha] at e0; have := e0 0 (by omega) (by omega) (by omega) (by omega); rw [show (0 : Int) + 0 = 0 by omega, z_0 (by omega)] at this; omega
        | some z => rw [ha] at e0 hi; simp only [Option.getD_some] at hi; have := e0.1; omega
      · have e0 := hI (k - 1)
        cases ha : F (k - 1) with
        | none => rw [ha] at e0; have := e0 0 (by omega) (by omega) (by omega) (by omega); rw [show (0 : Int) + (k - 1) = k - 1 by omega, z_0 (by omega)] at this; omega
        | some z => rw [ha] at e0 hi; simp only [Option.getD_some] at hi; have := e0.1; omega
    · have s := z_diags (f := f) (g := g) (i := -k) (j := 0) (k := i' + k) (by omega) (by omega) c
      rw [show -k + (i' + k) = i' by omega, show (0 : Int) + (i' + k) = i' + k by omega, z_0' (by omega)] at s
      have e0 := hI (k + 1)
      cases ha : F (k + 1) with
      | none => rw [ha] at e0; have := e0 (-k - 1) (by omega) (by omega) (by omega) (by omega); rw [show -k - 1 + (k + 1) = 0 by omega, z_0' (by omega)] at this; omega
      | some z =>
        rw [ha] at e0 hi
        simp only [Option.getD_some] at hi
        obtain ⟨a1, a2, a3, a4, _⟩ := e0
        omega

/-- the goal reached, or not -/
theorem goal_at {F : Int → Option Int} (hN : 0 ≤ N) (hM : 0 ≤ M) (hI : ∀ k, Entry f g N M e k (F k)) : (F (M - N)).getD (-1) < N ↔ e < DZ f g N M := by
  have q := hI (M - N)
  cases ha : F (M - N) with
  | none =>
    rw [ha] at q
    have := q N (by omega) (by omega) (by omega) (by omega)
    rw [show N + (M - N) = M by omega] at this
    simp only [Option.getD_none]
    omega
  | some z =>
    rw [ha] at q
    obtain ⟨a1, a2, a3, a4, a5, a6⟩ := q
    simp only [Option.getD_some]
    constructor
    · intro h
      by_cases c : e < DZ f g N M
      · exact c
      · have := a6 N (by omega) (by omega) (by omega) (by omega) (by rw [show N + (M - N) = M by omega]; omega)
        omega
    · intro h
      by_cases c : z < N
      · exact c
      · have e1 : z = N := by omega
        subst e1
        rw [show z + (M - z) = M by omega] at a5
        omega
end
end Mine

end

section
open PySem PySem.W PyProof.Rows PySem.Calls
set_option maxRecDepth 100000
set_option maxHeartbeats 4000000
namespace Mine
abbrev tbl (l : List Nat) (led : Bool) : SetTable := { mask := 7, place := l.toArray, dummies := #[], finger := 0, led := led, moves := 0, plain := true }
def subs : List Nat → List (List Nat)
  | [] => [[]]
  | x :: r => subs r ++ (subs r).map (x :: ·)
theorem mem_subs {l r : List Nat} (h : l.Sublist r) : l ∈ subs r := by
  induction h with
  | slnil => exact .head _
  | cons a _ ih => exact List.mem_append_left _ ih
  | cons_cons a _ ih => exact List.mem_append_right _ (List.mem_map.mpr ⟨_, ih, rfl⟩)
def stand (l : List Nat) : Nat → Nat
  | 0 => 0
  | k + 1 => l.getD k 0 + 1
def okL (l : List Nat) : Bool := (List.range (l.length + 1)).all fun k => SetTable.below l.toArray (stand l k) == k
def PL (n : Nat) : List (List Nat) := (subs (List.range 8)).filter (·.length ≤ n)
theorem mem_PL {l : List Nat} {n : Nat} (h : l.Sublist (List.range 8)) (hn : l.length ≤ n) : l ∈ PL n := List.mem_filter.mpr ⟨mem_subs h, by simpa using hn⟩
theorem okL_all : (PL 4).all okL = true := by decide +kernel
theorem below_stand {l : List Nat} (h : l.Sublist (List.range 8)) (hn : l.length ≤ 4) {k : Nat} (hk : k ≤ l.length) : SetTable.below l.toArray (stand l k) = k := by
  have := List.all_eq_true.mp okL_all l (mem_PL h hn)
  have := List.all_eq_true.mp this k (List.mem_range.mpr (by omega))
  simpa using this
def HL : List Int := (-2 : Int) :: (List.range 102).map fun (n : Nat) => Int.ofNat n
def stepOk (l : List Nat) (h : Int) : Bool :=
  match (tbl l false).freeSlot h with
  | some (j, false) => (l.take (SetTable.below l.toArray j) ++ j :: l.drop (SetTable.below l.toArray j)).isSublist (List.range 8)
  | _ => false
def HR : List Int := (-2 : Int) :: (List.range 32).map fun (n : Nat) => Int.ofNat (n % 8 + 32 * (n / 8))
theorem step_all : ((PL 3).all fun l => HR.all fun h => stepOk l h) = true := by decide +kernel
theorem run7 (i : Nat) : SetTable.runEnd 7 i = i := if_neg (by omega)
theorem adv7 (l : List Nat) {p : SetTable.Probe} (h : p.more = 0) : (tbl l false).advance p = { p with j := (SetTable.leap 7 p.i p.perturb).1, more := 0, i := (SetTable.leap 7 p.i p.perturb).1, perturb := p.perturb / 32 } := by
  unfold SetTable.advance
  rw [if_neg (by omega)]
  dsimp only
  rw [run7, Nat.sub_self]
  rfl
/-- only the sign's last three bits and what is over thirty-two are looked at -/
theorem go_same (l : List Nat) (h h' : Int) : ∀ (n : Nat) (p p' : SetTable.Probe), p.j = p'.j → p.more = 0 → p'.more = 0 → p.i = p'.i → p.dummy = p'.dummy → p.perturb / 32 = p'.perturb / 32 →
    SetTable.probe.go (tbl l false) (fun _ => h + 1) h n p = SetTable.probe.go (tbl l false) (fun _ => h' + 1) h' n p'
  | 0, _, _, _, _, _, _, _, _ => rfl
  | n + 1, p, p', e1, e2, e3, e4, e5, e6 => by
    have hl : (SetTable.leap 7 p.i p.perturb).1 = (SetTable.leap 7 p'.i p'.perturb).1 := by unfold SetTable.leap; rw [e4, e6]
    rw [SetTable.probe.go, SetTable.probe.go, e1]
    cases (tbl l false).slot p'.j with
    | empty => dsimp only; rw [e5]
    | dummy =>
      dsimp only
      rw [adv7 l (p := ⟨p'.j, p.more, p.i, p.perturb, some p'.j⟩) e2, adv7 l (p := ⟨p'.j, p'.more, p'.i, p'.perturb, some p'.j⟩) e3]
      exact go_same l h h' n _ _ hl rfl rfl hl rfl (by dsimp only; omega)
    | live i =>
      dsimp only
      rw [if_neg (by simp; omega), if_neg (by simp; omega), adv7 l e2, adv7 l e3]
      exact go_same l h h' n _ _ hl rfl rfl hl e5 (by dsimp only; omega)
theorem free_same (l : List Nat) {h h' : Int} (h1 : SetTable.bits h % 8 = SetTable.bits h' % 8) (h2 : SetTable.bits h / 32 = SetTable.bits h' / 32) : (tbl l false).freeSlot h = (tbl l false).freeSlot h' := by
  unfold SetTable.freeSlot SetTable.probe
  rw [go_same l h h' _ ((tbl l false).probeStart h) ((tbl l false).probeStart h') h1 ?_ ?_ h1 rfl h2]
  · show SetTable.runEnd 7 _ - _ = 0
    rw [run7]; exact Nat.sub_self _
  · show SetTable.runEnd 7 _ - _ = 0
    rw [run7]; exact Nat.sub_self _
theorem bits_nat {n : Nat} (h : n < 200) : SetTable.bits (Int.ofNat n) = n := by
  unfold SetTable.bits
  show (((n : Nat) : Int) % 18446744073709551616).toNat = n
  omega
theorem rep_of {h : Int} (hh : h ∈ HL) (l : List Nat) : ∃ h' ∈ HR, (tbl l false).freeSlot h = (tbl l false).freeSlot h' := by
  rcases List.mem_cons.mp hh with rfl | hh
  · exact ⟨_, .head _, rfl⟩
  · obtain ⟨n, hn, rfl⟩ := List.mem_map.mp hh
    have hn := List.mem_range.mp hn
    refine ⟨Int.ofNat (n % 8 + 32 * (n / 32)), .tail _ (List.mem_map.mpr ⟨n % 8 + 8 * (n / 32), List.mem_range.mpr (by omega), by
      have e1 : (n % 8 + 8 * (n / 32)) % 8 = n % 8 := by omega
      have e2 : (n % 8 + 8 * (n / 32)) / 8 = n / 32 := by omega
      rw [e1, e2]⟩), free_same l ?_ ?_⟩
    · rw [bits_nat (by omega), bits_nat (by omega)]; omega
    · rw [bits_nat (by omega), bits_nat (by omega)]; omega
theorem go_led (l : List Nat) (led : Bool) (f : Nat → Int) (h : Int) : ∀ (n : Nat) (p : SetTable.Probe), SetTable.probe.go (tbl l led) f h n p = SetTable.probe.go (tbl l false) f h n p
  | 0, p => rfl
  | n + 1, p => by
    rw [SetTable.probe.go, SetTable.probe.go]
    rw [show (tbl l led).slot p.j = (tbl l false).slot p.j from rfl]
    cases (tbl l false).slot p.j with
    | empty => rfl
    | dummy => exact go_led l led f h n _
    | live i =>
      dsimp only
      split
      · rfl
      · exact go_led l led f h n _
theorem free_led (l : List Nat) (led : Bool) (h : Int) : (tbl l led).freeSlot h = (tbl l false).freeSlot h := by
  unfold SetTable.freeSlot SetTable.probe
  rw [go_led l led]
  rfl
theorem step_of {l : List Nat} (led : Bool) {h : Int} (hl : l.Sublist (List.range 8)) (hn : l.length ≤ 3) (hh : h ∈ HL) :
    ∃ j, (tbl l led).freeSlot h = some (j, false) ∧ (l.take (SetTable.below l.toArray j) ++ j :: l.drop (SetTable.below l.toArray j)).Sublist (List.range 8) := by
  obtain ⟨h', hh', e⟩ := rep_of hh l
  have h1 := List.all_eq_true.mp (List.all_eq_true.mp step_all l (mem_PL hl hn)) h' hh'
  rw [free_led, e]
  unfold stepOk at h1
  split at h1
  · next j e => exact ⟨j, e, List.isSublist_iff_sublist.mp h1⟩
  · cases h1
theorem layNew_tbl {l : List Nat} (led : Bool) {h : Int} {es : Array (Int × Value)} {x : Value} (hl : l.Sublist (List.range 8)) (hn : l.length ≤ 3) (hh : h ∈ HL) (hsz : es.size = l.length) :
    ∃ es' l', layNew (tbl l led) es h x = (es', tbl l' led, false, false) ∧ List.Perm es'.toList (es.push (h, x)).toList ∧ l'.Sublist (List.range 8) ∧ l'.length = l.length + 1 ∧ es'.size = l'.length := by
  obtain ⟨j, e, hs⟩ := step_of led hl hn hh
  have hp := layNew_perm (tbl l led) es h x
  have hlen : (l.take (SetTable.below l.toArray j) ++ j :: l.drop (SetTable.below l.toArray j)).length = l.length + 1 := by
    simp only [List.length_append, List.length_take, List.length_cons, List.length_drop]; omega
  have hput : (tbl l led).put j = (tbl (l.take (SetTable.below l.toArray j) ++ j :: l.drop (SetTable.below l.toArray j)) led, SetTable.below l.toArray j) := by
    have e1 : SetTable.insertAt l.toArray (SetTable.below l.toArray j) j = (l.take (SetTable.below l.toArray j) ++ j :: l.drop (SetTable.below l.toArray j)).toArray := by
      apply Array.toList_inj.mp
      rw [SetTable.toList_insertAt]
    unfold SetTable.put
    dsimp only
    rw [e1]
    rfl
  have hsize : (SetTable.insertAt es (SetTable.below l.toArray j) (h, x)).size = l.length + 1 := by
    rw [← Array.length_toList, (SetTable.insertAt_perm es _ (h, x)).length_eq]
    simp [hsz]
  have hfit : (tbl (l.take (SetTable.below l.toArray j) ++ j :: l.drop (SetTable.below l.toArray j)) led).fits (SetTable.insertAt es (SetTable.below l.toArray j) (h, x)).size = true := by
    rw [hsize]
    unfold SetTable.fits SetTable.fill
    simp only [List.size_toArray, hlen]
    simp
    omega
  have hlay : layNew (tbl l led) es h x = (SetTable.insertAt es (SetTable.below l.toArray j) (h, x), tbl (l.take (SetTable.below l.toArray j) ++ j :: l.drop (SetTable.below l.toArray j)) led, false, false) := by
    unfold layNew
    rw [e]
    dsimp only
    rw [hput]
    dsimp only
    unfold SetTable.orStandIn
    rw [if_pos hfit, hfit]
    rfl
  rw [hlay] at hp
  exact ⟨_, _, hlay, hp, hs, hlen, hsize.trans hlen.symm⟩
theorem not_full {l : List Nat} {led : Bool} (hn : l.length ≤ 4) : (tbl l led).tooFull = false := by
  unfold SetTable.tooFull SetTable.fill
  simp
  omega
theorem fits_tbl {l : List Nat} {led : Bool} {n : Nat} (hn : l.length ≤ 4) (h : n = l.length) : (tbl l led).fits n = true := by
  subst h
  unfold SetTable.fits SetTable.fill
  simp
  omega
end Mine

end

section
open PySem PySem.W PyProof.Rows PySem.Calls
set_option maxRecDepth 100000
set_option maxHeartbeats 4000000
namespace Mine
abbrev setO (es : Array (Int × Value)) (ep : Nat) (l : List Nat) (led : Bool) : Obj := { cls := .type "set", dict := none, data := .set es ep (tbl l led) }
def SetAt (prog : Program) (w : World) (h : Heap) (a : Addr) (led : Bool) (n : Nat) (S : Int → Prop) : Prop :=
  ∃ es ep l, h.get? a = some (setO es ep l led) ∧ l.Sublist (List.range 8) ∧ l.length ≤ n ∧ es.size = l.length ∧ ElemsOf (intKind prog w) es.toList ∧ ∀ k, S k ↔ ∃ e ∈ es.toList, (intKind prog w).is k e.2 = true

theorem put_setO {es es' : Array (Int × Value)} {ep : Nat} {l l' : List Nat} {led : Bool} {h : Heap} {a : Addr} (ho : h.get? a = some (setO es ep l led)) :
    (h.update a (Obj.putSet es' (tbl l' led))).get? a = some (setO es' (ep + 1) l' led) := by
  have := Heap.get?_update_self (Obj.putSet es' (tbl l' led)) ho (by rw [putSet_of es' (tbl l' led) rfl]; rfl)
  rw [putSet_of es' (tbl l' led) rfl] at this
  exact this

section
variable {prog : Program} {w : World} {A : Around} {E : Value → Shared → Prop} {s : Shared}
theorem setAdd_my {a : Addr} {led : Bool} {n : Nat} {S : Int → Prop} {k : Int} {t : Tok} {Q : Bool → Shared → Prop} (hS : SetAt prog w s.heap a led n S) (hn : n ≤ 3) (hh : hashInt k ∈ HL)
    (h : ∀ b h', Heap.SameBut a s.heap h' → SetAt prog w h' a led (n + 1) (fun k' => S k' ∨ k' = k) → Q b { s with heap := h' }) :
    wpAny (model prog w) A (setAddHashed a (.int k t) (hashInt k)) Q E s := by
  obtain ⟨es, ep, l, ho, hl, hln, hsz, hel, hmem⟩ := hS
  have hkey : (intKind prog w).is k (.int k t) = true := intKind_is _ _ _ _
  have hf : (tbl l led).fits es.size = true := fits_tbl (by omega) hsz
  have hb : es.size < scanBound := by unfold scanBound; omega
  unfold setAddHashed setAddHashedIn
  refine wpAny_holding (wpAny_bind (wpAny_setState_of ho rfl hf ?_))
  dsimp only
  rw [byScan_of (knd := intKind prog w) (x := .int k t) rfl hb hel]
  simp only [↓reduceIte]
  unfold setAddByScan
  refine wpAny_bind ?_
  refine wpAny_bind (wpAny_rule ?_)
  refine wpAny_bind (wpAny_setScan_of (knd := intKind prog w) hkey ho rfl hf hel ?_)
  cases hr : List.findIdx? (fun e => (intKind prog w).is k e.2) es.toList with
  | some j =>
    dsimp only
    obtain ⟨hj, hpj, _⟩ := List.findIdx?_eq_some_iff_getElem.mp hr
    have hSk : S k := (hmem k).mpr ⟨es.toList[j], List.getElem_mem hj, hpj⟩
    refine wpAny_pure (wpAny_pure ?_)
    exact h false s.heap (Heap.SameBut.refl a s.heap) ⟨es, ep, l, ho, hl, by omega, hsz, hel, fun k' => by
      rw [← hmem k']
      exact ⟨fun hk => hk.elim id (fun e => e ▸ hSk), .inl⟩⟩
  | none =>
    dsimp only
    obtain ⟨es1, l1, hlay, hperm, hl1, hn1, hsz1⟩ := layNew_tbl led (es := es) (x := .int k t) hl (by omega) hh hsz
    rw [hlay]
    dsimp only
    rw [Array.toList_push] at hperm
    have hel1 : ElemsOf (intKind prog w) es1.toList := (hel.push hkey rfl).perm hperm
    refine wpAny_bind (wpAny_pure ?_)
    have hmem1 : ∀ k', (S k' ∨ k' = k) ↔ ∃ e ∈ es1.toList, (intKind prog w).is k' e.2 = true := fun k' => by
      rw [hmem k']
      constructor
      · rintro (⟨e, he, hp⟩ | rfl)
        · exact ⟨e, hperm.mem_iff.mpr (List.mem_append_left _ he), hp⟩
        · exact ⟨_, hperm.mem_iff.mpr (List.mem_append_right _ (List.mem_singleton.mpr rfl)), hkey⟩
      · rintro ⟨e, he, hp⟩
        rcases List.mem_append.mp (hperm.mem_iff.mp he) with he | he
        · exact .inl ⟨e, he, hp⟩
        · rw [List.mem_singleton] at he; subst he
          exact .inr ((intKind prog w).inj _ k' k hp hkey)
    have hend : Q true { s with heap := s.heap.update a (Obj.putSet es1 (tbl l1 led)) } :=
      h true _ (Heap.SameBut.update s.heap a _) ⟨es1, ep + 1, l1, put_setO ho, hl1, by omega, hsz1, hel1, hmem1⟩
    simp only [↓reduceIte]
    refine wpAny_bind ?_
    rw [hashByValue_scannable 8 (x := .int k t) rfl]
    refine wpAny_pure ?_
    simp only [plainKind, ↓reduceIte]
    refine wpAny_bind (wpAny_storeSet_of ho rfl ?_ (fits_of_scanBound (by unfold scanBound; omega)))
    rw [not_full (by omega)]
    simp only [Bool.and_false, Bool.false_eq_true, ↓reduceIte]
    exact wpAny_pure (wpAny_pure hend)

theorem SetAt.at {h h' : Heap} {a : Addr} {led : Bool} {n : Nat} {S : Int → Prop} (x : SetAt prog w h a led n S) (e : ∀ o, h.get? a = some o → h'.get? a = some o) : SetAt prog w h' a led n S :=
  let ⟨es, ep, l, ho, r⟩ := x; ⟨es, ep, l, e _ ho, r⟩
theorem SetAt.congr {h : Heap} {a : Addr} {led : Bool} {n : Nat} {S S' : Int → Prop} (x : SetAt prog w h a led n S) (e : ∀ k, S k ↔ S' k) : SetAt prog w h a led n S' := by
  rw [← funext fun k => propext (e k)]; exact x

theorem setLoop_my {R : Result → Shared → Prop} {I : Addr} {fp wr : List Addr} {G : Array GenState → Array GenState → Prop} {n : Nat} {P : Nat → Value → Prop} {St : Nat → Shared → Prop}
    (W : WalksS prog w A.in1 I fp wr G n P St) (S : Addr) (hSf : S ∉ fp) (led : Bool)
    (val : Nat → Int) (hval : ∀ i v, P i v → ∃ t, v = .int (val i) t) (hv : ∀ i, i < n → hashInt (val i) ∈ HL) (hn : n ≤ 4) :
    ∀ (k i : Nat) (s : Shared), n - i = k → i ≤ n → St i s →
      SetAt prog w s.heap S led i (fun k' => ∃ j, j < i ∧ k' = val j) →
      (∀ s', Moved (S :: wr) G s s' → SetAt prog w s'.heap S led n (fun k' => ∃ j, j < n ∧ k' = val j) → R (.ok (.ret .none)) s') →
      codeAny (model prog w) A (.builtin "set.update.loop" ⟨[.ref S, .ref I], []⟩) R s := by
  have hSw : S ∉ wr := fun h => hSf (W.sub _ h)
  have hsub : ∀ b ∈ wr, b ∈ S :: wr := fun b hb => List.mem_cons_of_mem _ hb
  intro k
  induction k with
  | zero =>
    intro i s hk hi hst hS hR
    have hin : i = n := by omega
    subst hin
    refine codeAny_builtin PyProof.Rows.F.entry_set_update_loop ?_
    rw [Around.under_plainId PyProof.Rows.F.plain_set_update_loop _]
    show wpAny _ A.in1 (pyNext (.ref I) >>= _) _ _ s
    refine wpAny_bind (W.done s _ _ hst fun s' hm => ?_)
    show wpAny _ A.in1 (ret Value.none) _ _ s'
    exact wpAny_pure (hR s' (hm.mono hsub) (hS.at fun o e => hm.heap S _ hSw e))
  | succ k ih =>
    intro i s hk hi hst hS hR
    have hlt : i < n := by omega
    refine codeAny_builtin PyProof.Rows.F.entry_set_update_loop ?_
    rw [Around.under_plainId PyProof.Rows.F.plain_set_update_loop _]
    show wpAny _ A.in1 (pyNext (.ref I) >>= _) _ _ s
    refine wpAny_bind (W.item i s _ _ hlt hst fun v s' hP hst' hm => ?_)
    obtain ⟨t, rfl⟩ := hval i v hP
    have hS' := hS.at (h' := s'.heap) fun o e => hm.heap S _ hSw e
    show wpAny _ A.in1 (holding [Value.int (val i) t] (setAdd S (.int (val i) t)) >>= _) _ _ s'
    refine wpAny_bind (wpAny_holding ?_)
    unfold setAdd
    refine wpAny_holding ?_
    refine wpAny_bind ((intKind prog w).pyHash (k := val i) (intKind_is _ _ _ _) ?_)
    refine setAdd_my (s := { s' with toks := s'.toks + 1 }) hS' (by omega) (hv i hlt) fun b h' hsb hS2 => ?_
    have hSi : SetAt prog w h' S led (i + 1) (fun k' => ∃ j, j < i + 1 ∧ k' = val j) := hS2.congr fun k' => by
      constructor
      · rintro (⟨j, hj, e⟩ | e)
        · exact ⟨j, by omega, e⟩
        · exact ⟨i, by omega, e⟩
      · rintro ⟨j, hj, e⟩
        by_cases hji : j = i
        · subst hji; exact .inr e
        · exact .inl ⟨j, by omega, e⟩
    refine wpAny_pure ⟨plainId_quiet PyProof.Rows.F.plain_set_update_loop _, ih (i + 1) _ (by omega) hlt (W.frame _ s' _ _ hst' (Nat.le_succ _) fun b hb o e => ?_) hSi fun s'' hm'' hS'' => ?_⟩
    · rw [hsb.2 b (fun h : b = S => hSf (by rw [← h]; exact hb))]; exact e
    · refine hR s'' (Moved.trans W.gtrans ((hm.mono hsub).then_heap (Nat.le_succ _) fun b o hb e => ?_) hm'') hS''
      rw [hsb.2 b (fun h : b = S => hb (by rw [h]; exact List.mem_cons_self))]; exact e

theorem setNew_my (a : Value) {Q₁ : Value → Shared → Prop}
    (h : Q₁ (.ref s.heap.objs.size) { s with heap := s.heap.push { cls := .type "set", dict := none, data := .set #[] 0 (.fresh 0 0 (!w.params.followText "set-order")) } }) :
    codeAny (model prog w) A (.call (.builtin "set.__new__") ⟨[.type "set", a], []⟩) (wants Q₁ E) s := by
  refine codeAny_of_tree ?_
  show wpAny _ A.in1 (do checkBuiltinCall "set.__new__" ⟨[.type "set", a], []⟩; again (.builtin "set.__new__" ⟨[.type "set", a], []⟩)) _ _ s
  refine wpAny_bind (wpAny_of_eq (PySem.F.newCall_set_1 a) (wpAny_pure ⟨plainId_quiet PySem.F.plain_set_new _, codeAny_builtin PySem.F.entry_set_new ?_⟩))
  rw [Around.under_plainId PySem.F.plain_set_new _]
  unfold Builtin.«set.__new__» Builtin.Frozenset.newClass
  have hsub := sub_set_self
  obtain ⟨hp, g, d, tk, os⟩ := s
  dsimp only
  wp_walk
  refine wpAny_askSetting (wpAny_pure ?_)
  dsimp only
  simp only [newObj]
  refine wpAny_bind (wpAny_alloc (wpAny_pure ?_))
  exact wpAny_pure h

set_option maxHeartbeats 3200000 in
theorem call_set_my {l : Addr} {items : Array Value} {ns : List Int} {Q : Value → Shared → Prop}
    (hh : A.handled = none) (hl : s.heap.IsList l items) (hi : PyProof.Rows.IntsAre items.toList ns) (hv : ∀ i, i < items.size → hashInt (ns.getD i 0) ∈ HL) (hn : items.size ≤ 4)
    (h : ∀ (h' : Heap) (tk : Nat), SetAt prog w h' s.heap.objs.size (!w.params.followText "set-order") items.size (fun k' => ∃ j, j < items.size ∧ k' = ns.getD j 0) →
      (∀ b o, b < s.heap.objs.size → s.heap.get? b = some o → h'.get? b = some o) → Q (.ref s.heap.objs.size) { s with heap := h', toks := tk }) :
    wpAny (model prog w) A (call (.type "set") [.ref l]) Q E s := by
  generalize hled : (!w.params.followText "set-order") = led at h
  obtain ⟨c, tl, hmro⟩ := PySem.F.called_set.mro
  have hmade := PySem.F.called_set.made
  have hsub := PySem.F.called_set.sub
  refine wpAny_call (codeAny_of_tree ?_)
  show wpAny _ _ (callAny (.type "set") _) _ _ _
  refine wpAny_pure ⟨Code.quiet_builtin _ (by decide +kernel), codeAny_builtin PySem.F.entry_type_call ?_⟩
  rw [Around.under_plain (weight_type_call_type "set" [.ref l] []) rfl]
  have h1 := PySem.F.called_set.notType
  have h2 := PySem.F.called_set.canCreate
  have hct := PySem.F.typeCall_set_1 (.ref l)
  repeat (any_goals (first | assumption | wp_step))
  refine codeAny_mono (setNew_my (.ref l) (E := E) (Q₁ := fun obj s₁ => obj = .ref s.heap.objs.size ∧ s₁ = { s with heap := s.heap.push { cls := .type "set", dict := none, data := .set #[] 0 (.fresh 0 0 led) } }) ⟨rfl, by rw [hled]⟩) fun r s₁ hr => ?_
  cases r with
  | error e => exact hr
  | ok fl =>
    cases fl with
    | ret obj =>
      obtain ⟨rfl, rfl⟩ := hr
      have hS : (s.heap.push { cls := .type "set", dict := none, data := .set #[] 0 (.fresh 0 0 led) }).get? s.heap.objs.size = some { cls := .type "set", dict := none, data := .set #[] 0 (.fresh 0 0 led) } := Heap.get?_push_size _ rfl
      have hT : Shared.TypeIs { s with heap := s.heap.push { cls := .type "set", dict := none, data := .set #[] 0 (.fresh 0 0 led) } } (.ref s.heap.objs.size) "set" := ⟨_, hS, rfl⟩
      have hli := PySem.F.called_set.init.lookup
      have hbi := PySem.F.called_set.init.bind (.ref s.heap.objs.size)
      repeat (any_goals (first | assumption | wp_step))
      refine codeAny_mono (codeAny_call_builtin (R := wants (fun r s₂ => r = .none ∧ ∃ h' tk, s₂ = { s with heap := h', toks := tk } ∧
          SetAt prog w h' s.heap.objs.size led items.size (fun k' => ∃ j, j < items.size ∧ k' = ns.getD j 0) ∧
          (∀ b o, b < s.heap.objs.size → s.heap.get? b = some o → h'.get? b = some o)) E) PySem.F.called_set.init.plain PySem.F.entry_set_init (check_set_init_1 hT ?_)) fun r₂ s₂ hr₂ => ?_
      · obtain ⟨ol, hol, hcl, nl, hdl⟩ := hl
        obtain ⟨ocls, odict, odata, oslots⟩ := ol
        simp only at hcl hdl
        subst hcl; subst hdl
        have hol' : (s.heap.push { cls := .type "set", dict := none, data := .set #[] 0 (.fresh 0 0 led) }).get? l = some { cls := .type "list", dict := odict, data := .seq items nl, slots := oslots } := Heap.get?_push_of_some _ hol
        have hsls := PySem.F.sub_list_set
        have hslf := PySem.F.sub_list_frozenset
        have hne : (Value.type "list" == Value.type "dict") = false := by decide
        have hl1 : (s.heap.push { cls := .type "set", dict := none, data := .set #[] 0 (.fresh 0 0 led) }).IsList l items := ⟨_, hol', rfl, nl, rfl⟩
        unfold Builtin.«set.__init__» noKeywords Builtin.Frozenset.updateFrom
        generalize hPI : pyIter = PI
        wp_walk
        subst hPI
        refine wpAny_pyIter_list hl1 ?_
        refine wpAny_bind (wpAny_runValue ?_)
        have hlS : l < s.heap.objs.size := Heap.lt_size hol
        have hh3 : A.in1.in1.in1.handled = none := by simp [hh]
        have hneI : l ≠ (s.heap.push { cls := .type "set", dict := none, data := .set #[] 0 (.fresh 0 0 led) }).objs.size := by
          rw [Heap.size_push]; exact Nat.ne_of_lt (Nat.lt_succ_of_lt hlS)
        have hSf : s.heap.objs.size ∉ [(s.heap.push { cls := .type "set", dict := none, data := .set #[] 0 (.fresh 0 0 led) }).objs.size, l] := by
          rw [Heap.size_push]; simp only [List.mem_cons, List.mem_singleton, List.not_mem_nil, or_false, not_or]
          exact ⟨Nat.ne_of_lt (Nat.lt_succ_self _), Nat.ne_of_gt hlS⟩
        have hval : ∀ (i : Nat) (v : Value), items[i]? = some v → ∃ t, v = .int ((fun i => ns.getD i 0) i) t := fun i v hv =>
          PyProof.Rows.IntsAre.int_at hi i v (by rw [Array.getElem?_toList]; exact hv)
        refine setLoop_my ((Walks.list hh3 _ l hneI items).toS) s.heap.objs.size
          hSf led (fun i => ns.getD i 0) hval hv hn (items.size - 0) 0 _ (by omega) (Nat.zero_le _)
          ⟨⟨_, Heap.get?_push_size _ rfl, rfl, rfl⟩, (hl1.push _)⟩ ?hS0 ?hR
        case hS0 =>
          have hget : ((s.heap.push { cls := .type "set", dict := none, data := .set #[] 0 (.fresh 0 0 led) }).push { cls := .type "list_iterator", data := .fields #[.ref l, .int 0 0] }).get? s.heap.objs.size
              = some { cls := .type "set", dict := none, data := .set #[] 0 (.fresh 0 0 led) } := Heap.get?_push_of_some _ hS
          exact ⟨#[], 0, [], hget, List.nil_sublist _, Nat.le_refl _, rfl, fun e he => by simp at he, fun k => by simp⟩
        case hR =>
          intro s' hm hS'
          obtain ⟨h', g', d', tk', os'⟩ := s'
          have eg : g' = s.gens := hm.gens
          have ed : d' = s.drawn := hm.drawn
          have eo : os' = s.os := hm.os
          subst eg; subst ed; subst eo
          show wpAny _ _ _ _ _ _
          refine wpAny_pure ?_
          show wpAny _ _ (ret Value.none) _ _ _
          refine wpAny_pure ⟨rfl, h', tk', rfl, hS', fun b o hb e => ?_⟩
          have hb1 : b ≠ s.heap.objs.size := Nat.ne_of_lt hb
          have hb2 : b ≠ (s.heap.push { cls := .type "set", dict := none, data := .set #[] 0 (.fresh 0 0 led) }).objs.size := by
            rw [Heap.size_push]; exact Nat.ne_of_lt (Nat.lt_succ_of_lt hb)
          exact hm.heap b o (by simp only [List.mem_cons, List.mem_singleton, List.not_mem_nil, or_false, not_or]; exact ⟨hb1, hb2⟩) (Heap.get?_push_of_some _ (Heap.get?_push_of_some _ e))
      · cases r₂ with
        | error e => exact hr₂
        | ok fl₂ =>
          cases fl₂ with
          | ret r =>
            obtain ⟨rfl, h', tk, rfl, hS', hk'⟩ := hr₂
            repeat (any_goals (first | assumption | wp_step))
            exact h _ _ hS' hk'
          | _ => exact hr₂.elim
    | _ => exact hr.elim
end
end Mine

end

section
open PySem PySem.W PyProof.Rows PySem.Calls
set_option maxRecDepth 100000
set_option maxHeartbeats 4000000
namespace Mine
theorem slot_si_next : Slot "set_iterator" "__next__" "set_iterator.__next__" :=
  .of (owner := "set_iterator") (n := "__next__") (by rw [typeLookup_type, builtinLookup_eq_fast]; kernel_rfl) (by decide +kernel) (by decide +kernel) (by decide +kernel)
    (by first | exact .inl (by decide +kernel) | exact .inr (by decide +kernel)) (by rw [isSubtype_type]; kernel_rfl)
theorem slot_si_iter : Slot "set_iterator" "__iter__" "set_iterator.__iter__" :=
  .of (owner := "set_iterator") (n := "__iter__") (by rw [typeLookup_type, builtinLookup_eq_fast]; kernel_rfl) (by decide +kernel) (by decide +kernel) (by decide +kernel)
    (by first | exact .inl (by decide +kernel) | exact .inr (by decide +kernel)) (by rw [isSubtype_type]; kernel_rfl)
theorem entry_si_next : entryFor table "set_iterator.__next__" = some Builtin.«set_iterator.__next__» := entryFor_of_tree (by kernel_rfl)
theorem entry_si_iter : entryFor table "set_iterator.__iter__" = some Builtin.«dict_keyiterator.__iter__» :=
  entryFor_alias (id' := "dict_keyiterator.__iter__") (by kernel_rfl) rfl (by decide +kernel) (by kernel_rfl)
theorem entry_s_iter : entryFor table "set.__iter__" = some Builtin.«frozenset.__iter__» :=
  entryFor_alias (id' := "frozenset.__iter__") (by kernel_rfl) rfl (by decide +kernel) (by kernel_rfl)
theorem owner_si : Manifest.owners.lookup (String.ofList ['r', 'o', 't', 'a', 'r', 'e', 't', 'i', '_', 't', 'e', 's'].reverse) = some Manifest.sig_set_iterator := by kernel_rfl
theorem args_si_next (a : Value) : argsOk "set_iterator.__next__" ⟨[a], []⟩ := by
  unfold argsOk; rw [signature?_of (id := "set_iterator.__next__") (n := ['_', '_', 't', 'x', 'e', 'n', '_', '_']) (o := ['r', 'o', 't', 'a', 'r', 'e', 't', 'i', '_', 't', 'e', 's']) (by kernel_rfl) owner_si]; kernel_rfl
theorem args_si_iter (a : Value) : argsOk "set_iterator.__iter__" ⟨[a], []⟩ := by
  unfold argsOk; rw [signature?_of (id := "set_iterator.__iter__") (n := ['_', '_', 'r', 'e', 't', 'i', '_', '_']) (o := ['r', 'o', 't', 'a', 'r', 'e', 't', 'i', '_', 't', 'e', 's']) (by kernel_rfl) owner_si]; kernel_rfl

theorem erase_perm {α : Type} : ∀ (l : List α) (i : Nat) (h : i < l.length), List.Perm ([l[i]] ++ l.eraseIdx i) l
  | [], i, h => absurd h (Nat.not_lt_zero _)
  | a :: r, 0, _ => .refl _
  | a :: r, i + 1, h => by
    have ih := erase_perm r i (by simpa using h)
    exact (List.Perm.swap a _ _).trans (ih.cons a)
theorem pickGo_perm {α : Type} (next : Nat → Nat) : ∀ (fuel k : Nat) (left : List α) (out : Array α), left.length ≤ fuel → List.Perm (pickOrder.go next fuel k left out).toList (out.toList ++ left)
  | 0, _, [], out, _ => by rw [pickOrder.go]; simp
  | 0, _, _ :: _, _, h => by simp at h
  | fuel + 1, k, left, out, h => by
    rw [pickOrder.go]
    split
    · next x e =>
      obtain ⟨hi, hx⟩ := List.getElem?_eq_some_iff.mp e
      have ih := pickGo_perm next fuel (k + 1) (left.eraseIdx (next k % left.length)) (out.push x) (by rw [List.length_eraseIdx]; split <;> omega)
      refine ih.trans ?_
      rw [Array.toList_push, List.append_assoc]
      refine List.Perm.append_left _ ?_
      rw [← hx]
      exact erase_perm left _ hi
    · next e =>
      have : left = [] := by
        cases left with
        | nil => rfl
        | cons a r =>
          have := List.getElem?_eq_none_iff.mp e
          have := Nat.mod_lt (next k) (show 0 < (a :: r).length by simp)
          omega
      subst this; simp
theorem pick_perm {α : Type} (next : Nat → Nat) (xs : Array α) : List.Perm (pickOrder next xs).toList xs.toList := by
  have := pickGo_perm next xs.size 0 xs.toList #[] (by simp)
  simpa [pickOrder] using this

def IsSetIter (h : Heap) (I a : Addr) (slot i n ep : Nat) : Prop :=
  ∃ o, h.get? I = some o ∧ o.cls = .type "set_iterator" ∧ o.data = .fields #[.int slot 0, .int i 0, .ref a, .int n 0, .int ep 0]
theorem IsSetIter.typeIs {s : Shared} {I a : Addr} {slot i n ep : Nat} (x : IsSetIter s.heap I a slot i n ep) : s.TypeIs (.ref I) "set_iterator" := let ⟨o, ho, hc, _⟩ := x; ⟨o, ho, hc⟩
theorem IsSetIter.at {h h' : Heap} {I a : Addr} {slot i n ep : Nat} (x : IsSetIter h I a slot i n ep) (e : ∀ o, h.get? I = some o → h'.get? I = some o) : IsSetIter h' I a slot i n ep := let ⟨o, ho, r⟩ := x; ⟨o, e _ ho, r⟩

def ordOf (w : World) (a : Addr) (ep : Nat) (es : Array (Int × Value)) : Array (Int × Value) := if w.params.followText "set-order" = true then pickOrder (w.params.setOrder a ep) es else es
def slotAt (w : World) (l : List Nat) (i : Nat) : Nat := if w.params.followText "set-order" = true then 0 else stand l i
theorem ord_perm (w : World) (a : Addr) (ep : Nat) (es : Array (Int × Value)) : List.Perm (ordOf w a ep es).toList es.toList := by
  unfold ordOf; split
  · exact pick_perm _ _
  · exact .refl _

section
variable {prog : Program} {w : World} {A : Around} {E : Value → Shared → Prop} {s : Shared}

theorem setNext_my {a : Addr} {es : Array (Int × Value)} {ep : Nat} {l : List Nat} {i : Nat} {Q : Option (Value × Nat) → Shared → Prop}
    (ho : s.heap.get? a = some (setO es ep l (!w.params.followText "set-order"))) (hl : l.Sublist (List.range 8)) (hn : l.length ≤ 4) (hsz : es.size = l.length) (hi : i ≤ l.length)
    (h : Q (((ordOf w a ep es)[i]?).map fun e => (e.2, slotAt w l (i + 1))) s) :
    wpAny (model prog w) A (setNext a (slotAt w l i) i ep) Q E s := by
  have hf : (tbl l (!w.params.followText "set-order")).fits es.size = true := fits_tbl hn hsz
  unfold setNext setsByText
  refine wpAny_bind (wpAny_setState_of ho rfl hf ?_)
  dsimp only
  refine wpAny_bind (wpAny_bind (wpAny_askSetting (wpAny_pure ?_)))
  dsimp only
  unfold slotAt at h ⊢
  unfold ordOf at h
  simp only [show (model prog w).w = w from rfl]
  cases hb : w.params.followText "set-order" with
  | true =>
    rw [hb] at h ho hf
    simp only [if_true] at h ⊢
    rw [if_neg (by simp)]
    unfold setWalk setsByText
    refine wpAny_bind (wpAny_bind (wpAny_setState_of ho rfl hf ?_))
    dsimp only
    refine wpAny_bind (wpAny_bind (wpAny_askSetting (wpAny_pure ?_)))
    simp only [show (model prog w).w = w from rfl]
    rw [hb]
    simp only [if_true]
    refine wpAny_bind (wpAny_askSetting (wpAny_pure ?_))
    exact wpAny_pure h
  | false =>
    rw [hb] at h
    simp only [Bool.false_eq_true, if_false] at h ⊢
    refine wpAny_ite_split (fun hab => absurd (show false = true from hab) Bool.false_ne_true) (fun _ => ?_)
    refine wpAny_bind (m := (pure () : Sem Unit)) (wpAny_pure ?_)
    rw [below_stand hl hn hi]
    refine wpAny_pure ?_
    by_cases hlt : i < l.length
    · have e1 : es[i]? = some (es[i]'(by omega)) := by simp [hsz, hlt]
      have e2 : l.toArray[i]? = some (l[i]'hlt) := by simp [hlt]
      rw [e1] at h ⊢
      rw [e2]
      have e3 : stand l (i + 1) = l[i]'hlt + 1 := by unfold stand; simp [hlt]
      rw [e3] at h
      exact h
    · have e1 : es[i]? = none := by simp; omega
      rw [e1] at h ⊢
      exact h

theorem si_item {I a : Addr} {es : Array (Int × Value)} {ep : Nat} {l : List Nat} {i : Nat} {v : Value} {Q : Option Value → Shared → Prop}
    (hit : IsSetIter s.heap I a (slotAt w l i) i l.length ep)
    (ho : s.heap.get? a = some (setO es ep l (!w.params.followText "set-order"))) (hl : l.Sublist (List.range 8)) (hn : l.length ≤ 4) (hsz : es.size = l.length)
    (hx : ((ordOf w a ep es)[i]?).map (·.2) = some v)
    (hQ : ∀ h', IsSetIter h' I a (slotAt w l (i + 1)) (i + 1) l.length ep → Heap.SameBut I s.heap h' → Q (some v) { s with heap := h' }) :
    wpAny (model prog w) A (pyNext (.ref I)) Q E s := by
  have hf : (tbl l (!w.params.followText "set-order")).fits es.size = true := fits_tbl hn hsz
  have hi : i ≤ l.length := by
    have h1 : (ordOf w a ep es).size = l.length := by rw [← Array.length_toList, (ord_perm w a ep es).length_eq, Array.length_toList, hsz]
    cases e : (ordOf w a ep es)[i]? with
    | none => rw [e] at hx; cases hx
    | some y => have := (Array.getElem?_eq_some_iff.mp e).1; omega
  obtain ⟨o, hoI, hc, hd⟩ := id hit
  unfold pyNext
  refine wpAny_bind (wpAny_attempt (wpAny_callSpecial?_slot (name := Str.ofString "__next__") hit.typeIs slot_si_next
    (wpAny_call_entry slot_si_next hit.typeIs entry_si_next ?_ (args_si_next _))))
  unfold Builtin.«set_iterator.__next__»
  refine wpAny_bind (m := slotArgs "__next__" 0 _) (wpAny_pure ?_)
  dsimp only
  refine wpAny_bind (wpAny_fieldsOf hoI hd ?_)
  dsimp only
  refine wpAny_bind (wpAny_setEntries_of ho rfl hf ?_)
  rw [if_neg (by rw [hsz]; simp)]
  show wpAny _ _ (setNext a (Int.toNat (slotAt w l i : Nat)) (Int.toNat (i : Nat)) (Int.toNat (ep : Nat)) >>= _) _ _ s
  rw [Int.toNat_natCast, Int.toNat_natCast, Int.toNat_natCast]
  refine wpAny_bind (setNext_my ho hl hn hsz hi ?_)
  cases e : (ordOf w a ep es)[i]? with
  | none => rw [e] at hx; cases hx
  | some y =>
    rw [e] at hx
    have hy : y.2 = v := Option.some.inj hx
    dsimp only [Option.map]
    rw [hy]
    refine wpAny_bind (wpAny_setField hoI hd (by simp) ?_)
    have ho1 := Heap.get?_update_self (Obj.mapFields fun x => x.setIfInBounds 0 (rawInt (slotAt w l (i + 1) : Nat))) hoI (Obj.isFreed_of_fields (Obj.data_mapFields hd _))
    have hd1 := Obj.data_mapFields hd fun x => x.setIfInBounds 0 (rawInt (slotAt w l (i + 1) : Nat))
    refine wpAny_bind (wpAny_setField ho1 hd1 (by simp) (wpAny_pure ⟨v, rfl, wpAny_pure (hQ _ ?_ ((Heap.SameBut.update ..).trans (Heap.SameBut.update ..)))⟩))
    refine ⟨_, Heap.get?_update_self _ ho1 (Obj.isFreed_of_fields (Obj.data_mapFields hd1 _)), (Obj.cls_mapFields ..).trans ((Obj.cls_mapFields ..).trans hc), ?_⟩
    rw [Obj.data_mapFields hd1]
    simp [rawInt]

theorem si_end {I a : Addr} {es : Array (Int × Value)} {ep : Nat} {l : List Nat} {Q : Option Value → Shared → Prop} (hh : A.handled = none)
    (hit : IsSetIter s.heap I a (slotAt w l l.length) l.length l.length ep)
    (ho : s.heap.get? a = some (setO es ep l (!w.params.followText "set-order"))) (hl : l.Sublist (List.range 8)) (hn : l.length ≤ 4) (hsz : es.size = l.length)
    (hQ : ∀ h', Heap.ExtBut I s.heap h' → Q none { s with heap := h' }) :
    wpAny (model prog w) A (pyNext (.ref I)) Q E s := by
  have hf : (tbl l (!w.params.followText "set-order")).fits es.size = true := fits_tbl hn hsz
  obtain ⟨o, hoI, hc, hd⟩ := id hit
  unfold pyNext
  refine wpAny_bind (wpAny_attempt (wpAny_callSpecial?_slot (name := Str.ofString "__next__") hit.typeIs slot_si_next
    (wpAny_call_entry slot_si_next hit.typeIs entry_si_next ?_ (args_si_next _))))
  unfold Builtin.«set_iterator.__next__»
  refine wpAny_bind (m := slotArgs "__next__" 0 _) (wpAny_pure ?_)
  dsimp only
  refine wpAny_bind (wpAny_fieldsOf hoI hd ?_)
  dsimp only
  refine wpAny_bind (wpAny_setEntries_of ho rfl hf ?_)
  rw [if_neg (by rw [hsz]; simp)]
  show wpAny _ _ (setNext a (Int.toNat (slotAt w l l.length : Nat)) (Int.toNat (l.length : Nat)) (Int.toNat (ep : Nat)) >>= _) _ _ s
  rw [Int.toNat_natCast, Int.toNat_natCast, Int.toNat_natCast]
  refine wpAny_bind (setNext_my ho hl hn hsz (Nat.le_refl _) ?_)
  have h1 : (ordOf w a ep es).size = l.length := by rw [← Array.length_toList, (ord_perm w a ep es).length_eq, Array.length_toList, hsz]
  have e : (ordOf w a ep es)[l.length]? = none := Array.getElem?_eq_none_iff.mpr (by omega)
  rw [e]
  dsimp only [Option.map]
  refine wpAny_bind (wpAny_setField hoI hd (by simp) ?_)
  show wpAny _ _ (newExc (.type "StopIteration") [] >>= _) _ _ _
  refine wpAny_bind ?_
  simp only [newExc, newTuple]
  refine wpAny_bind (wpAny_newObj_type ?_ (by size_fits))
  refine wpAny_bind (m := firstArgMember _ _) (wpAny_of_eq (a := Value.none) (by first | rfl | (simp only [firstArgMember]; rfl)) ?_)
  refine wpAny_newObj_type ?_ (by size_fits)
  simp only [raiseNew]
  refine wpAny_bind (wpAny_handled ?_)
  rw [show A.in1.handled = none from hh]
  refine wpAny_bind (wpAny_pure (wpAny_throw ?_))
  refine wpAny_bind (wpAny_isInstance (T := "StopIteration") (b := true) ⟨_, Heap.get?_push_size _ rfl, rfl⟩ isSubtype_stop ?_)
  exact wpAny_pure (hQ _ (((Heap.SameBut.update ..).extBut.push _).push _))

theorem si_self {I a : Addr} {slot i n ep : Nat} {Q : Value → Shared → Prop} (hit : IsSetIter s.heap I a slot i n ep) (h : Q (.ref I) s) : wpAny (model prog w) A (pyIter (.ref I)) Q E s := by
  refine wpAny_pyIter_slot hit.typeIs slot_si_iter (wpAny_call_entry slot_si_iter hit.typeIs entry_si_iter ?_ (args_si_iter _))
  show wpAny _ _ (ret (.ref I)) _ _ s
  exact wpAny_pure ⟨_, rfl, "set_iterator", _, hit.typeIs, slot_si_next.lookup, h⟩

theorem si_make {a : Addr} {es : Array (Int × Value)} {ep : Nat} {l : List Nat} {Q : Value → Shared → Prop}
    (ho : s.heap.get? a = some (setO es ep l (!w.params.followText "set-order"))) (hn : l.length ≤ 4) (hsz : es.size = l.length)
    (hQ : Q (.ref s.heap.objs.size) { s with heap := s.heap.push { cls := .type "set_iterator", data := .fields #[.int 0 0, .int 0 0, .ref a, .int l.length 0, .int ep 0] } }) :
    wpAny (model prog w) A (pyIter (.ref a)) Q E s := by
  have hf : (tbl l (!w.params.followText "set-order")).fits es.size = true := fits_tbl hn hsz
  have hT : s.TypeIs (.ref a) "set" := ⟨_, ho, rfl⟩
  refine wpAny_pyIter_slot hT PySem.F.slot_set_iter (wpAny_call_entry PySem.F.slot_set_iter hT entry_s_iter ?_ (PySem.F.args_set_iter_1 _))
  unfold Builtin.«frozenset.__iter__»
  refine wpAny_bind (m := Builtin.Frozenset.slot0 "__iter__" _) (wpAny_pure ?_)
  refine wpAny_bind ?_
  unfold Builtin.Frozenset.sizeOf
  refine wpAny_bind (wpAny_setEntries_of ho rfl hf (wpAny_pure ?_))
  refine wpAny_bind ?_
  unfold setDrawn setsByText
  refine wpAny_bind (wpAny_setState_of ho rfl hf ?_)
  dsimp only
  refine wpAny_bind (wpAny_bind (wpAny_askSetting (wpAny_pure ?_)))
  refine wpAny_pure ?_
  refine wpAny_ite_split (fun hab => absurd (show (!w.params.followText "set-order" && false) = true from hab) (by rw [Bool.and_false]; exact Bool.false_ne_true)) (fun _ => ?_)
  refine wpAny_bind (m := (pure (rawInt 0) : Sem Value)) (wpAny_pure ?_)
  refine wpAny_bind (wpAny_setEpoch_of ho rfl hf ?_)
  refine wpAny_bind ?_
  rw [hsz]
  exact wpAny_newObj_type (wpAny_pure ⟨_, rfl, "set_iterator", _, ⟨_, Heap.get?_push_size _ rfl, rfl⟩, slot_si_next.lookup, hQ⟩)

theorem si_hint {r : Addr} {Q : Bool → Shared → Prop} (hT : s.TypeIs (.ref r) "set") (h : Q false s) : wpAny (model prog w) A (Builtin.List.listLengthHint (.ref r)) Q E s := by
  unfold Builtin.List.listLengthHint
  refine wpAny_bind (wpAny_specialOf hT PySem.F.slot_set_len.lookup ?_)
  generalize hid : ("set.__len__" : String) = id0
  wp_delta
  rw [show splitId id0 = some ("set", "__len__") from by subst hid; decide +kernel]
  subst hid
  refine wpAny_bind (wpAny_isInstance (T := "set") (b := true) hT (by rw [isSubtype_type]; kernel_rfl) ?_)
  refine wpAny_ite_split (fun hab => absurd hab (by decide)) (fun _ => ?_)
  refine wpAny_ite_split (fun _ => ?_) (fun hab => absurd (by decide +kernel) hab)
  refine wpAny_bind (wpAny_typeOf hT ?_)
  exact wpAny_pure h

theorem si_walks {I a : Addr} {es : Array (Int × Value)} {ep : Nat} {l : List Nat} (hh : A.handled = none) (hne : a ≠ I) (hl : l.Sublist (List.range 8)) (hn : l.length ≤ 4) (hsz : es.size = l.length) :
    Walks prog w A I [I, a] [I] l.length (fun i v => ((ordOf w a ep es)[i]?).map (·.2) = some v) (fun i h => IsSetIter h I a (slotAt w l i) i l.length ep ∧ h.get? a = some (setO es ep l (!w.params.followText "set-order"))) where
  sub := fun b hb => by simp at hb; simp [hb]
  frame := fun _ _ _ st hk => ⟨st.1.at fun o e => hk I (by simp) o e, hk a (by simp) _ st.2⟩
  item := fun i s Q E hi st hQ => by
    have h1 : (ordOf w a ep es).size = l.length := by rw [← Array.length_toList, (ord_perm w a ep es).length_eq, Array.length_toList, hsz]
    have hx : (ordOf w a ep es)[i]? = some ((ordOf w a ep es)[i]'(by omega)) := Array.getElem?_eq_getElem (by omega)
    refine si_item (v := ((ordOf w a ep es)[i]'(by omega)).2) st.1 st.2 hl hn hsz (by rw [hx]; rfl) fun h' hit' hs' => ?_
    exact hQ _ h' s.toks (by rw [hx]; rfl) ⟨hit', hs'.extBut a _ hne st.2⟩ fun b o hb e => hs'.extBut b o (fun h => hb (by simp [h])) e
  done := fun s Q E st hQ => si_end hh st.1 st.2 hl hn hsz fun h' he' => hQ h' s.toks fun b o hb e => he' b o (fun h => hb (by simp [h])) e
  self := fun _ _ _ _ st hQ => si_self st.1 hQ

theorem si_src {a : Addr} {es : Array (Int × Value)} {ep : Nat} {l : List Nat} (hl : l.Sublist (List.range 8)) (hn : l.length ≤ 4) (hsz : es.size = l.length) :
    KdlSrc prog w "set" a a l.length (fun i v => ((ordOf w a ep es)[i]?).map (·.2) = some v) (fun h => h.get? a = some (setO es ep l (!w.params.followText "set-order"))) where
  type := fun _ hm => ⟨_, hm, rfl⟩
  there := fun _ hm => ⟨Heap.lt_size hm, Heap.lt_size hm⟩
  keep := fun _ _ hm hk => hk a (.inl rfl) _ hm
  notList := by decide
  notTuple := by decide
  hint := fun _ _ _ _ hm hq => si_hint ⟨_, hm, rfl⟩ hq
  iter := fun _ s hh hm => ⟨_, _, (fun _ _ hq => si_make hm hn hsz hq), si_walks hh (Nat.ne_of_lt (Heap.lt_size hm)) hl hn hsz, ⟨⟨_, Heap.get?_push_size _ rfl, rfl, by
    have e : slotAt w l 0 = 0 := by unfold slotAt stand; split <;> rfl
    rw [e]; rfl⟩, Heap.get?_push_of_some _ hm⟩⟩
end
end Mine

end

section
open PySem PySem.W PyProof.Rows PySem.Calls
set_option maxRecDepth 100000
set_option maxHeartbeats 4000000
namespace Mine
def SetO (prog : Program) (w : World) (o : Obj) (ns : List Int) : Prop :=
  ∃ es ep l, o = setO es ep l (!w.params.followText "set-order") ∧ l.Sublist (List.range 8) ∧ l.length ≤ 4 ∧ es.size = l.length ∧ ElemsOf (intKind prog w) es.toList ∧ ∀ k, k ∈ ns ↔ ∃ e ∈ es.toList, (intKind prog w).is k e.2 = true

theorem ints_of : ∀ (vs : List Value), (∀ v ∈ vs, ∃ k t, v = Value.int k t) → ∃ ms, IntsAre vs ms ∧ ∀ k, k ∈ ms ↔ ∃ t, Value.int k t ∈ vs
  | [], _ => ⟨[], .nil, fun k => by simp⟩
  | v :: r, h => by
    obtain ⟨ms, h1, h2⟩ := ints_of r fun v hv => h v (.tail _ hv)
    obtain ⟨k, t, rfl⟩ := h v (.head _)
    refine ⟨k :: ms, .cons k t h1, fun k' => ?_⟩
    rw [List.mem_cons, h2 k']
    constructor
    · rintro (rfl | ⟨t', h⟩)
      · exact ⟨t, .head _⟩
      · exact ⟨t', .tail _ h⟩
    · rintro ⟨t', h⟩
      rcases List.mem_cons.mp h with e | h
      · cases e; exact .inl rfl
      · exact .inr ⟨t', h⟩

section
variable {prog : Program} {w : World} {A : Around} {E : Value → Shared → Prop} {s : Shared} {h₀ : Heap} {L : Addr} {m : Str → Option Value} {news : List (Addr × Obj)}
theorem set_N {l : Addr} {vs : List Value} {nn : Nat} {ns : List Int} {Q : Value → Shared → Prop} (hh : A.handled = none) (F : Fr h₀ L s.heap m) (N : News h₀ L s.heap news) (hl : (l, listOf vs.toArray nn) ∈ news)
    (hi : IntsAre vs ns) (hv : ∀ k ∈ ns, hashInt k ∈ HL) (hn : ns.length ≤ 4)
    (h : ∀ S h' tk o, Fr h₀ L h' m → News h₀ L h' ((S, o) :: news) → (∀ q ∈ news, q.1 < S) → SetO prog w o ns → Q (.ref S) { s with heap := h', toks := tk }) :
    wpAny (model prog w) A (call (.type "set") [.ref l]) Q E s := by
  have hvn : vs.length = ns.length := IntsAre.length hi
  have hls : s.heap.IsList l vs.toArray := ⟨_, (N _ hl).1, rfl, nn, rfl⟩
  have hsz : vs.toArray.size = ns.length := by rw [List.size_toArray, hvn]
  have hat : ∀ i, i < ns.length → ns.getD i 0 ∈ ns := fun i hi => by
    rw [List.getD_eq_getElem?_getD, List.getElem?_eq_getElem hi]; exact List.getElem_mem hi
  refine call_set_my (items := vs.toArray) (ns := ns) hh hls (by simpa using hi) (fun i hi => hv _ (hat i (by omega))) (by omega) fun h' tk hS hk => ?_
  obtain ⟨es, ep, tl, ho, h1, h2, h3, h4, h5⟩ := hS
  obtain ⟨oL, _, _, hL, _⟩ := F.ns
  have hLlt : L < s.heap.objs.size := Heap.lt_size hL
  refine h _ h' tk _ ⟨F.ns.at' fun o' e => hk L o' hLlt e, fun b o' e => hk b o' (Heap.lt_size (F.keep b o' e)) (F.keep b o' e), F.above⟩ (fun p hp => ?_) (fun q hq => Heap.lt_size (N q hq).1)
    ⟨es, ep, tl, rfl, h1, by omega, h3, h4, fun k => ?_⟩
  · rcases List.mem_cons.mp hp with rfl | hp
    · refine ⟨ho, Nat.ne_of_gt hLlt, ?_⟩
      cases hq : h₀.get? s.heap.objs.size with
      | none => rfl
      | some o' => exact absurd (Heap.lt_size (F.keep _ _ hq)) (Nat.lt_irrefl _)
    · exact ⟨hk _ _ (Heap.lt_size (N p hp).1) (N p hp).1, (N p hp).2.1, (N p hp).2.2⟩
  · rw [← h5 k, hsz]
    constructor
    · intro hk
      obtain ⟨i, hi, e⟩ := List.getElem_of_mem hk
      exact ⟨i, hi, by rw [List.getD_eq_getElem?_getD, List.getElem?_eq_getElem hi]; exact e.symm⟩
    · rintro ⟨j, hj, rfl⟩
      exact hat j hj

theorem sortedSet_N {S : Addr} {o : Obj} {ns : List Int} {Q : Value → Shared → Prop} (hh : A.handled = none) (F : Fr h₀ L s.heap m) (N : News h₀ L s.heap news) (hS : (S, o) ∈ news) (hO : SetO prog w o ns)
    (h : ∀ D h' tk vs ms k, Fr h₀ L h' m → News h₀ L h' ((D, listOf (List.toArray vs) k) :: news) → (∀ q ∈ news, q.1 < D) → IntsAre vs ms → (∀ x, x ∈ ms ↔ x ∈ ns) → ms.length ≤ 4 → Q (.ref D) { s with heap := h', toks := tk }) :
    wpAny (model prog w) A (call (.builtin "sorted") [.ref S]) Q E s := by
  obtain ⟨es, ep, l, rfl, h1, h2, h3, h4, h5⟩ := hO
  refine kdu_sorted (si_src (prog := prog) (w := w) (ep := ep) h1 h2 h3) hh F N (N _ hS).1 (by rw [sizeLine_eq]; omega) fun D h' tk vs F' N' l1 hlen hvs => ?_
  have hmem : ∀ v, v ∈ vs ↔ ∃ e ∈ es.toList, e.2 = v := fun v => by
    have hp := ord_perm w S ep es
    have hos : (ordOf w S ep es).size = l.length := by rw [← Array.length_toList, hp.length_eq, Array.length_toList, h3]
    constructor
    · intro hv
      obtain ⟨j, hj, e⟩ := List.getElem_of_mem hv
      have := hvs j v (by rw [List.getElem?_eq_getElem hj, e])
      cases e2 : (ordOf w S ep es)[j]? with
      | none => rw [e2] at this; cases this
      | some y =>
        rw [e2] at this
        exact ⟨y, hp.mem_iff.mp (Array.mem_toList_iff.mpr (Array.mem_of_getElem? e2)), Option.some.inj this⟩
    · rintro ⟨e, he, rfl⟩
      obtain ⟨j, hj, e3⟩ := List.getElem_of_mem (hp.mem_iff.mpr he)
      have hj' : j < vs.length := by rw [Array.length_toList] at hj; omega
      have := hvs j _ (List.getElem?_eq_getElem hj')
      rw [← Array.getElem?_toList, List.getElem?_eq_getElem hj, e3] at this
      have this : e.2 = vs[j] := Option.some.inj this
      rw [this]
      exact List.getElem_mem hj'
  obtain ⟨ms, hI, hm⟩ := ints_of vs fun v hv => by
    obtain ⟨e, he, rfl⟩ := (hmem v).mp hv
    obtain ⟨⟨k, hk, _⟩, _⟩ := h4 e he
    obtain ⟨t, ht⟩ := Value.isInt_shape hk
    exact ⟨k, t, ht⟩
  have hms : ∀ k, k ∈ ms ↔ k ∈ ns := fun k => by
    rw [hm k, h5 k]
    constructor
    · rintro ⟨t, ht⟩
      obtain ⟨e, he, e2⟩ := (hmem _).mp ht
      exact ⟨e, he, by rw [e2]; exact intKind_is _ _ _ _⟩
    · rintro ⟨e, he, hk⟩
      obtain ⟨t, ht⟩ := Value.isInt_shape hk
      exact ⟨t, (hmem _).mpr ⟨e, he, ht⟩⟩
  have hD := N' _ (.head _)
  refine wpAny_call_entry PyProof.Rows.slot_list_sort ⟨_, hD.1, rfl⟩ PyProof.Rows.entry_list_sort (list_sort_tree hD.1 hI (by omega) fun out ns' a1 a2 a3 => ⟨_, rfl, ?_⟩) (PyProof.Rows.args_list_sort _)
  obtain ⟨e, hat⟩ := sortedHeap_at (vs := vs) (out := out) hD.1
  have old : ∀ b o, b ≠ D → h'.get? b = some o → (sortedHeap h' D vs out).get? b = some o := fun b o hb e => by rw [sortedHeap_old hb (Heap.lt_size e)]; exact e
  have hDL : D ≠ L := hD.2.1
  have key := h D (sortedHeap h' D vs out) tk out.toList ns' e
    ⟨F'.ns.at' fun o e => old L o (Ne.symm hDL) e, fun b o e => old b o (fun hb => by rw [hb, hD.2.2] at e; cases e) (F'.keep b o e), F'.above⟩
    (fun p hp => ?_) l1 a1 (fun x => by rw [a2.mem_iff, hms x]) (by rw [a2.length_eq, ← hI.length]; omega)
  · exact key
  · rcases List.mem_cons.mp hp with rfl | hp
    · exact ⟨hat, hD.2⟩
    · exact ⟨old _ _ (Nat.ne_of_lt (l1 p hp)) (N' p (.tail _ hp)).1, (N' p (.tail _ hp)).2⟩
end
end Mine

end

section
open PySem PySem.W PyProof.Rows
set_option maxRecDepth 100000
set_option maxHeartbeats 8000000
namespace Mine
open_top hd for PySem.Challenge.rw_fp5022_01
end Mine

end

theorem Mine.walk_off : True := by
  w_top off
  trivial

section
open PySem PySem.W PyProof.Rows
set_option maxRecDepth 100000
namespace Mine



/-- a def's contract: called with `vs` from any frame with any ledger; what it gives back, what it makes besides -/
def Tells (prog : Program) (w : World) (p : Program) (loose : List Str) (mean : ExcName → Option Value) (mg mb : Str → Option Value) (f : Addr) (need : Nat) (vs : List Value)
    (Out : Value → List (Addr × Obj) → Prop) : Prop :=
  ∀ (dp un : Nat) (gd : Option (List Code)) (cn : Str) (cs : Scope) (a : Addr) (ccd : Value) (cl : List (Str × Addr)) (outer : List Env) (A₀ : Around) (base h₀ : Heap) (L : Addr) (m : Str → Option Value) (news : List (Addr × Obj)) (s : Shared)
    (Q E : Value → Shared → Prop),
    Below A₀ base outer h₀ → Fr h₀ L s.heap m → (hd.heap_39 w.params).In h₀ → News h₀ L s.heap news → Top p loose mean mg mb h₀ → cs.kind = .function → dp + need < recursionLimit → un + 8 * need < cLine →
    (∀ r tl h' tk', Fr h₀ L h' m → News h₀ L h' (tl ++ news) → (∀ q ∈ news, ∀ p ∈ tl, q.1 < p.1) → Out r tl → Q r { s with heap := h', toks := tk' }) →
    wpAny (model prog w) (ktrTop dp un gd cn cs L a ccd cl outer) (call (.ref f) vs) Q E s
/-- the same for a def that is handed the call's own list -/
def TellsL (prog : Program) (w : World) (p : Program) (loose : List Str) (mean : ExcName → Option Value) (mg mb : Str → Option Value) (f : Addr) (need : Nat) (l : Addr) (lvs : List Value)
    (Out : Value → List (Addr × Obj) → Prop) : Prop :=
  ∀ (dp un : Nat) (gd : Option (List Code)) (cn : Str) (cs : Scope) (a : Addr) (ccd : Value) (cl : List (Str × Addr)) (outer : List Env) (A₀ : Around) (base h₀ : Heap) (L : Addr) (m : Str → Option Value) (news : List (Addr × Obj)) (s : Shared)
    (Q E : Value → Shared → Prop),
    base.IsList l lvs.toArray → Below A₀ base outer h₀ → Fr h₀ L s.heap m → (hd.heap_39 w.params).In h₀ → News h₀ L s.heap news → Top p loose mean mg mb h₀ → cs.kind = .function → dp + need < recursionLimit → un + 8 * need < cLine →
    (∀ r tl h' tk', Fr h₀ L h' m → News h₀ L h' (tl ++ news) → (∀ q ∈ news, ∀ p ∈ tl, q.1 < p.1) → Out r tl → Q r { s with heap := h', toks := tk' }) →
    wpAny (model prog w) (ktrTop dp un gd cn cs L a ccd cl outer) (call (.ref f) [.ref l]) Q E s
end Mine

end

section
open PySem PySem.W PyProof.Rows PySem.Calls
set_option maxRecDepth 100000
namespace Mine

def bnd (u : Str → Option Value) : List (Str × Value) → Str → Option Value
  | [] => u
  | p :: r => fun z => if z = p.1 then some p.2 else bnd u r z

theorem bnd_eq {m : Str → Option Value} : ∀ {ps : List (Str × Value)}, (∀ p ∈ ps, m p.1 = some p.2) → bnd m ps = m
  | [], _ => rfl
  | p :: r, h => by
    funext z
    show (if z = p.1 then some p.2 else bnd m r z) = m z
    by_cases e : z = p.1
    · rw [if_pos e, e]; exact (h p (.head _)).symm
    · rw [if_neg e, bnd_eq fun q hq => h q (.tail _ hq)]

/-- the frame's map, told by a list of names -/
theorem frame_as {h₀ h : Heap} {L : Addr} {m : Str → Option Value} (ps : List (Str × Value)) (F : Fr h₀ L h m) (hk : ∀ p ∈ ps, m p.1 = some p.2) : Fr h₀ L h (bnd m ps) := by
  rw [bnd_eq hk]; exact F

theorem tells_use {prog : Program} {w : World} {p : Program} {loose : List Str} {mean : ExcName → Option Value} {mg mb : Str → Option Value} {f : Addr} {need : Nat} {Out : Value → List (Addr × Obj) → Prop}
    {dp un : Nat} {gd : Option (List Code)} {cn : Str} {cs : Scope} {a : Addr} {ccd : Value} {cl : List (Str × Addr)} {outer : List Env} {A₀ : Around} {base h₀ : Heap} {L : Addr} {m : Str → Option Value} {news : List (Addr × Obj)} {s : Shared} {vs : List Value}
    {Q E : Value → Shared → Prop} (C : Tells prog w p loose mean mg mb f need vs Out)
    (B : Below A₀ base outer h₀) (F : Fr h₀ L s.heap m) (X : (hd.heap_39 w.params).In h₀) (N : News h₀ L s.heap news) (T : Top p loose mean mg mb h₀) (hk : cs.kind = .function) (hdp : dp + need < recursionLimit) (hun : un + 8 * need < cLine)
    (ret : ∀ r tl h' tk', Fr h₀ L h' m → News h₀ L h' (tl ++ news) → (∀ q ∈ news, ∀ p ∈ tl, q.1 < p.1) → Out r tl → Q r { s with heap := h', toks := tk' }) :
    wpAny (model prog w) (ktrTop dp un gd cn cs L a ccd cl outer) (call (.ref f) vs) Q E s := C _ _ _ _ _ _ _ _ _ _ _ _ _ _ _ _ _ _ B F X N T hk hdp hun ret

theorem int_ret {a b : Int} {t : Tok} (h : a = b) : Value.int a t = Value.int b t := by rw [h]
theorem some_int {a b : Int} {t : Tok} (h : a = b) : some (Value.int a t) = some (Value.int b t) := by rw [h]

theorem min_three_N {prog : Program} {w : World} {A : Around} {E : Value → Shared → Prop} {s : Shared} {h₀ : Heap} {L : Addr} {m : Str → Option Value} {news : List (Addr × Obj)} {a b c : Int} {t u x : Tok} {Q : Value → Shared → Prop} (hh : A.handled = none) (F : Fr h₀ L s.heap m) (N : News h₀ L s.heap news)
    (h : ∀ (v : Int) (tv : Tok) (h' : Heap) (tk : Nat), v = min (min a b) c → Fr h₀ L h' m → News h₀ L h' news → Q (.int v tv) { s with heap := h', toks := tk }) :
    wpAny (model prog w) A (call (.builtin "min") [.int a t, .int b u, .int c x]) Q E s :=
  min_three_ints hh fun h' tk hk => by
    have k := fun v tv e => h v tv h' tk e (F.grownK hk) (N.grown hk)
    by_cases c1 : b < a
    · rw [if_pos c1]
      by_cases c2 : c < b
      · rw [if_pos c2]; exact k c x (by omega)
      · rw [if_neg c2]; exact k b u (by omega)
    · rw [if_neg c1]
      by_cases c2 : c < a
      · rw [if_pos c2]; exact k c x (by omega)
      · rw [if_neg c2]; exact k a t (by omega)

def WEnd {σ : Type} (h₀ : Heap) (L : Addr) (s : Shared) (Led : σ → List (Addr × Obj)) (ps : σ → List (Str × Value)) (P : σ → Prop) (μ : σ → Nat) (c : σ) (s₂ : Shared) : Prop :=
  ∃ (c' : σ) (h' : Heap) (tk : Nat) (m' : Str → Option Value) (news' : List (Addr × Obj)), s₂ = { s with heap := h', toks := tk } ∧ Fr h₀ L h' m' ∧ News h₀ L h' news' ∧ (∀ p ∈ Led c', p ∈ news') ∧ (∀ p ∈ ps c', m' p.1 = some p.2) ∧ P c' ∧ μ c' < μ c
def WPost {σ : Type} (h₀ : Heap) (L : Addr) (s : Shared) (Led : σ → List (Addr × Obj)) (ps : σ → List (Str × Value)) (P : σ → Prop) (μ : σ → Nat) (Q : Flow → Shared → Prop) (c : σ) (f : Flow) (s₂ : Shared) : Prop :=
  match f with
  | .ret v => Q (.ret v) s₂
  | .brk => Q .next s₂
  | _ => WEnd h₀ L s Led ps P μ c s₂

section
variable {prog : Program} {w : World} {A : Around} {E : Value → Shared → Prop} {Q : Flow → Shared → Prop} {s : Shared} {env : Env} {h₀ : Heap} {L : Addr}
theorem my_while {σ : Type} {test : Expr} {body : List Stmt} {pos : Pos} {m₀ : Str → Option Value} {news₀ : List (Addr × Obj)} (Led : σ → List (Addr × Obj)) (ps : σ → List (Str × Value)) (P : σ → Prop) (μ : σ → Nat) (c₀ : σ)
    (F : Fr h₀ L s.heap m₀) (N : News h₀ L s.heap news₀) (hn : ∀ p ∈ Led c₀, p ∈ news₀) (hk : ∀ p ∈ ps c₀, m₀ p.1 = some p.2) (hp : P c₀)
    (turn : ∀ (c : σ) (u : Str → Option Value) h tk, P c → Fr h₀ L h (bnd u (ps c)) → News h₀ L h (Led c) →
      wpAny (model prog w) A (isTrue test env (eval test env)) (fun b s₂ =>
        if b = true then wpAny (model prog w) A (execs body env) (WPost h₀ L s Led ps P μ Q c) E s₂ else Q .next s₂) E { s with heap := h, toks := tk })
    (hE : PassesOwn (model prog w) A env E := by passes_own) :
    wpAny (model prog w) A (exec (.While test body [] pos) env) Q E s := by
  refine While_inv2 (fun n m nx => ∃ c : σ, nx = Led c ∧ μ c = n ∧ (∀ p ∈ ps c, m p.1 = some p.2) ∧ P c) F (fun p hp => N p (hn p hp)) ⟨c₀, rfl, rfl, hk, hp⟩ ?_ hE
  rintro n m₁ nx h tk F₁ N₁ ⟨c, hnx, hsz, h1, hp'⟩
  rw [hnx] at N₁
  rw [← hsz]
  refine wpAny_mono (turn c m₁ h tk hp' (frame_as _ F₁ h1) N₁) (fun b s₂ p => ?_) fun _ _ x => x
  cases b with
  | false => simpa using p
  | true =>
    simp only [if_true] at p ⊢
    refine wpAny_mono p (fun f s₃ q => ?_) fun _ _ x => x
    cases f with
    | ret v => exact q
    | brk => exact q
    | next =>
      obtain ⟨c', h', tk', m', news', rfl, F', N', hn, hk9, hp9, hm9⟩ := q
      exact ⟨h', tk', m', Led c', μ c', rfl, F', fun p hp => N' p (hn p hp), hm9, c', rfl, rfl, hk9, hp9⟩
    | cont =>
      obtain ⟨c', h', tk', m', news', rfl, F', N', hn, hk9, hp9, hm9⟩ := q
      exact ⟨h', tk', m', Led c', μ c', rfl, F', fun p hp => N' p (hn p hp), hm9, c', rfl, rfl, hk9, hp9⟩
theorem WEnd.intro {σ : Type} {Led : σ → List (Addr × Obj)} {ps : σ → List (Str × Value)} {P : σ → Prop} {μ : σ → Nat} {c : σ} {h' : Heap} {tk : Nat} {m' : Str → Option Value} {news' : List (Addr × Obj)} (c' : σ)
    (F : Fr h₀ L h' m') (N : News h₀ L h' news') (hn : ∀ p ∈ Led c', p ∈ news') (hk : ∀ p ∈ ps c', m' p.1 = some p.2) (hp : P c') (hm : μ c' < μ c) :
    WEnd h₀ L s Led ps P μ c { s with heap := h', toks := tk } := ⟨c', h', tk, m', news', rfl, F, N, hn, hk, hp, hm⟩
end

theorem news_but3 {h₀ h : Heap} {L : Addr} {a b c d : Addr × Obj} {r : List (Addr × Obj)} (N : News h₀ L h (a :: b :: c :: d :: r)) : News h₀ L h (a :: r) := fun p hp => N p (by
  rcases List.mem_cons.mp hp with rfl | hp
  · exact .head _
  · exact .tail _ (.tail _ (.tail _ (.tail _ hp))))
theorem off1_all {D : Addr} : ∀ {l : List (Addr × Obj)}, LCg.Off1 D l → ∀ p ∈ l, p.1 ≠ D
  | [], _, _, h => nomatch h
  | _ :: _, x, p, h => by
    rcases List.mem_cons.mp h with rfl | h
    · exact x.1
    · exact off1_all x.2 p h
theorem off_of {own : List (Addr × Obj)} {as : List Addr} {D : Addr} (h : OwnOff own as) (hm : D ∈ as) : ∀ p ∈ own, p.1 ≠ D := fun p hp => h p hp D hm

/-- a statement's end, told by one word: its ways meet there -/
def Cut (P : Shared → Prop) (f : Flow) (s : Shared) : Prop := f = .next ∧ P s
theorem Cut.intro {P : Shared → Prop} {s : Shared} (h : P s) : Cut P .next s := ⟨rfl, h⟩
theorem cut_stmt {M : Model} {A : Around} {E : Value → Shared → Prop} {Q : Flow → Shared → Prop} {s : Shared} {st : Stmt} {env : Env} (P : Shared → Prop)
    (h1 : wpAny M A (exec st env) (Cut P) E s) (h2 : ∀ s', P s' → Q .next s') : wpAny M A (exec st env) Q E s :=
  wpAny_mono h1 (fun f s' h => by obtain ⟨rfl, h⟩ := h; exact h2 s' h) fun _ _ x => x

def REnd {σ : Type} (h₀ : Heap) (L : Addr) (s : Shared) (own : List (Addr × Obj)) (Led : σ → List (Addr × Obj)) (as : List Addr) (ps : σ → List (Str × Value)) (P : σ → Prop) (s₂ : Shared) : Prop :=
  ∃ (c' : σ) (h' : Heap) (tk : Nat) (m' : Str → Option Value) (news' : List (Addr × Obj)), s₂ = { s with heap := h', toks := tk } ∧ Fr h₀ L h' m' ∧ News h₀ L h' news' ∧ (∀ p ∈ Led c', p ∈ news') ∧ (∀ p ∈ own, p ∈ news') ∧ (Led c').map (·.1) = as ∧ (∀ p ∈ ps c', m' p.1 = some p.2) ∧ P c'
def RPost {σ : Type} (h₀ : Heap) (L : Addr) (s : Shared) (own : List (Addr × Obj)) (Led : σ → List (Addr × Obj)) (as : List Addr) (ps : σ → List (Str × Value)) (P : σ → Prop) (Q : Flow → Shared → Prop) (f : Flow) (s₂ : Shared) : Prop :=
  match f with
  | .ret v => Q (.ret v) s₂
  | .brk => Q .next s₂
  | _ => REnd h₀ L s own Led as ps P s₂

section
variable {prog : Program} {w : World} {A : Around} {E : Value → Shared → Prop} {Q : Flow → Shared → Prop} {s : Shared} {env : Env} {h₀ : Heap} {L : Addr} {x : Str} {body : List Stmt}
theorem REnd.intro {σ : Type} {own : List (Addr × Obj)} {Led : σ → List (Addr × Obj)} {as : List Addr} {ps : σ → List (Str × Value)} {P : σ → Prop} {h' : Heap} {tk : Nat} {m' : Str → Option Value} {news' : List (Addr × Obj)} (c' : σ)
    (F : Fr h₀ L h' m') (N : News h₀ L h' news') (hn : ∀ p ∈ Led c', p ∈ news') (ho : ∀ p ∈ own, p ∈ news') (ha : (Led c').map (·.1) = as) (hk : ∀ p ∈ ps c', m' p.1 = some p.2) (hp : P c') :
    REnd h₀ L s own Led as ps P { s with heap := h', toks := tk } := ⟨c', h', tk, m', news', rfl, F, N, hn, ho, ha, hk, hp⟩

theorem inv_of_rpost {σ : Type} {own : List (Addr × Obj)} {Led : σ → List (Addr × Obj)} {as : List Addr} {ps : σ → List (Str × Value)} {P : σ → Prop} {J : (Str → Option Value) → List (Addr × Obj) → Prop}
    (up : ∀ c m, (Led c).map (·.1) = as → (∀ p ∈ ps c, m p.1 = some p.2) → P c → J m (Led c)) (f : Flow) (s₂ : Shared) (h : RPost h₀ L s own Led as ps P Q f s₂) : InvPostN h₀ L J own as s Q f s₂ := by
  have go : REnd h₀ L s own Led as ps P s₂ → InvEndN h₀ L J own as s s₂ := by
    rintro ⟨c', h', tk, m', news', e, F, N, hn, ho, ha, hk, hp⟩
    exact ⟨h', tk, m', news', Led c', e, F, N, hn, ho, ha, up c' m' ha hk hp⟩
  cases f with
  | ret v => exact h
  | brk => exact h
  | next => exact go h
  | cont => exact go h

theorem my_range {σ : Type} {r : Addr} {a₀ b₀ : Int} {t₀ u₀ v₀ : Tok} {n : Nat} {m₀ : Str → Option Value} {news₀ : List (Addr × Obj)} (Led : σ → List (Addr × Obj)) (ps : σ → List (Str × Value)) (P : Nat → σ → Prop) (c₀ : σ)
    (hh : A.handled = none) (hr : IsRange s.heap r a₀ b₀ 1 t₀ u₀ v₀) (hsmall : Builtin.Range.small a₀ b₀ 1 = true) (hn : Builtin.Range.rangeSize a₀ b₀ 1 = (n : Int)) (F : Fr h₀ env.locals s.heap m₀) (N : News h₀ env.locals s.heap news₀)
    (hx : ∀ c, ((ps c).all fun p => !(p.1 == x)) = true) (hsub : ∀ p ∈ Led c₀, p ∈ news₀) (hk : ∀ p ∈ ps c₀, m₀ p.1 = some p.2) (hp : P 0 c₀)
    (turn : ∀ (i : Nat) (c : σ) t (u : Str → Option Value) h tk own, i < n → OwnOff own ((Led c₀).map (·.1)) → (Led c).map (·.1) = (Led c₀).map (·.1) → P i c →
      Fr h₀ env.locals h (bnd u ((x, .int (a₀ + (i : Int)) t) :: ps c)) → News h₀ env.locals h (Led c ++ own) →
      wpAny (model prog w) A (execs body env) (RPost h₀ env.locals { s with heap := h, toks := tk } own Led ((Led c₀).map (·.1)) ps (P (i + 1)) Q) E { s with heap := h, toks := tk })
    (done : ∀ (c : σ) (u : Str → Option Value) h tk, P n c → Fr h₀ env.locals h (bnd u (ps c)) → News h₀ env.locals h (Led c) → Q .next { s with heap := h, toks := tk }) :
    wpAny (model prog w) A (pyIter (.ref r)) (fun it s₂ => LoopAtV prog w A h₀ env x body Q E it s₂) E s := by
  refine wpAny_pyIter_range hr hsmall ?_
  have W : Walks prog w A s.heap.objs.size [s.heap.objs.size] [s.heap.objs.size] n (fun i v => i < n ∧ ∃ t, v = .int (a₀ + i * 1) t)
      (fun i h => IsRangeIter h s.heap.objs.size (a₀ + (i : Nat) * 1) ((n : Int) - (i : Nat)) 1) := (Walks.range hh _ a₀ 1 n).bound
  have N0 : News h₀ env.locals s.heap (Led c₀) := fun p hp => N p (hsub p hp)
  have notI : ∀ p ∈ Led c₀, p.1 ∉ [s.heap.objs.size] := fun p hp hI => absurd (Heap.lt_size (N0 p hp).1) ((List.mem_singleton.mp hI) ▸ Nat.lt_irrefl _)
  refine loop_invN (fun i m nx => ∃ c, nx = Led c ∧ (∀ p ∈ ps c, m p.1 = some p.2) ∧ P i c) W ?_ ?_ notI notI (by show IsRangeIter _ _ _ _ _; rw [hn]; simpa using Heap.get?_push_size _ rfl) (F.push _) (fun p hp => ⟨Heap.get?_push_of_some _ (N0 p hp).1, (N0 p hp).2⟩) ⟨c₀, rfl, hk, hp⟩ ?_ ?_
  · exact fun hm => absurd F.ns.lt ((List.mem_singleton.mp hm) ▸ Nat.lt_irrefl _)
  · intro b hb
    rw [List.mem_singleton.mp hb]
    exact next_is_new F
  · rintro i v m₁ nx h tk own hi ⟨_, t, rfl⟩ hadr hoff ⟨c, rfl, h1, hp'⟩ F₁ N₁
    have e1 : a₀ + (i : Int) * 1 = a₀ + (i : Int) := by omega
    rw [e1] at F₁
    refine wpAny_mono (turn i c t _ h tk own hi hoff hadr hp' (frame_as _ F₁ ?_) N₁) (inv_of_rpost fun c m _ h2 h3 => ⟨c, rfl, h2, h3⟩) fun _ _ e => e
    intro p hp
    rcases List.mem_cons.mp hp with rfl | hp
    · exact if_pos rfl
    · show (if p.1 = x then _ else m₁ p.1) = _
      rw [if_neg (by have := List.all_eq_true.mp (hx c) p hp; simpa using this)]
      exact h1 p hp
  · rintro m₁ nx h tk ⟨c, rfl, h1, hp'⟩ F₁ N₁
    exact done c m₁ h tk hp' (frame_as _ F₁ h1) N₁

/-- a for over a list of ints that the call has made -/
theorem my_list {σ : Type} {l : Addr} {vs : List Value} {ns : List Int} {nn : Nat} {m₀ : Str → Option Value} {news₀ : List (Addr × Obj)} (Led : σ → List (Addr × Obj)) (ps : σ → List (Str × Value)) (P : Nat → σ → Prop) (c₀ : σ)
    (hh : A.handled = none) (hl : ∀ c, (l, listOf vs.toArray nn) ∈ Led c) (hi : IntsAre vs ns) (F : Fr h₀ env.locals s.heap m₀) (N : News h₀ env.locals s.heap news₀)
    (hx : ∀ c, ((ps c).all fun p => !(p.1 == x)) = true) (hsub : ∀ p ∈ Led c₀, p ∈ news₀) (hk : ∀ p ∈ ps c₀, m₀ p.1 = some p.2) (hp : P 0 c₀)
    (turn : ∀ (i : Nat) (k : Int) (c : σ) t (u : Str → Option Value) h tk own, ns[i]? = some k → OwnOff own ((Led c₀).map (·.1)) → (Led c).map (·.1) = (Led c₀).map (·.1) → P i c →
      Fr h₀ env.locals h (bnd u ((x, .int k t) :: ps c)) → News h₀ env.locals h (Led c ++ own) →
      wpAny (model prog w) A (execs body env) (RPost h₀ env.locals { s with heap := h, toks := tk } own Led ((Led c₀).map (·.1)) ps (P (i + 1)) Q) E { s with heap := h, toks := tk })
    (done : ∀ (c : σ) (u : Str → Option Value) h tk, P ns.length c → Fr h₀ env.locals h (bnd u (ps c)) → News h₀ env.locals h (Led c) → Q .next { s with heap := h, toks := tk }) :
    wpAny (model prog w) A (pyIter (.ref l)) (fun it s₂ => LoopAtV prog w A h₀ env x body Q E it s₂) E s := by
  refine iter_invNL (fun i m nx => ∃ c, nx = Led c ∧ (∀ p ∈ ps c, m p.1 = some p.2) ∧ P i c) hh (hl c₀) hi F (fun p hp => N p (hsub p hp)) ⟨c₀, rfl, hk, hp⟩ ?_ ?_
  · rintro i k t m₁ nx h tk own hi' hadr hoff _ ⟨c, rfl, h1, hp'⟩ F₁ N₁
    refine wpAny_mono (turn i k c t _ h tk own hi' hoff hadr hp' (frame_as _ F₁ ?_) N₁) (inv_of_rpost fun c m _ h2 h3 => ⟨hl c, c, rfl, h2, h3⟩) fun _ _ e => e
    intro p hp
    rcases List.mem_cons.mp hp with rfl | hp
    · exact if_pos rfl
    · show (if p.1 = x then _ else m₁ p.1) = _
      rw [if_neg (by have := List.all_eq_true.mp (hx c) p hp; simpa using this)]
      exact h1 p hp
  · rintro m₁ nx h tk _ ⟨c, rfl, h1, hp'⟩ F₁ N₁
    exact done c m₁ h tk hp' (frame_as _ F₁ h1) N₁
end
end Mine

end

section
open PySem PySem.W PyProof.Rows PySem.Calls
namespace Mine

/-- the sign of a text at a place -/
def At (x : Str) (i : Int) : Nat := x.cps.getD i.toNat 0

/-- the signs from a place on -/
def sg (x : Str) (pl : Int) : Nat → Nat := fun (k : Nat) => At x (pl + (k : Int))

theorem item_beq {x y : Str} {i j : Int} (hi : 0 ≤ i ∧ i < x.length) (hj : 0 ≤ j ∧ j < y.length) : (Txt.item x i == Txt.item y j) = decide (At x i = At y j) := by
  rw [item_meets hi, item_meets hj]
  unfold At
  rw [Bool.eq_iff_iff]
  simp

theorem item_bne {x y : Str} {i j : Int} (hi : 0 ≤ i ∧ i < x.length) (hj : 0 ≤ j ∧ j < y.length) : (Txt.item x i != Txt.item y j) = decide (At x i ≠ At y j) := by
  unfold bne
  rw [item_beq hi hj]
  simp

/-- slid from i on the diagonal g to v: as far as the signs are alike -/
def Slid (x y : Str) (i g v : Int) : Prop :=
  i ≤ v ∧ (∀ k, i ≤ k → k < v → k < x.length ∧ k + g < y.length ∧ At x k = At y (k + g)) ∧ (v < x.length → v + g < y.length → At x v ≠ At y (v + g))

theorem slid_more {x y : Str} {i g k : Int} (h1 : ∀ j, i ≤ j → j < k → j < x.length ∧ j + g < y.length ∧ At x j = At y (j + g)) (h2 : k < x.length) (h3 : k + g < y.length) (h4 : At x k = At y (k + g)) :
    ∀ j, i ≤ j → j < k + 1 → j < x.length ∧ j + g < y.length ∧ At x j = At y (j + g) := by
  intro j hj hk
  by_cases e : j = k
  · subst e; exact ⟨h2, h3, h4⟩
  · exact h1 j hj (by omega)
end Mine

end

section
open PySem PySem.W PyProof.Rows PySem.Calls
set_option maxRecDepth 100000
set_option maxHeartbeats 4000000
namespace Mine
-- one step
local macro_rules | `(tactic| walk_at "S") => `(tactic| first | (k_unfold; (try dsimp only)) | (k_end; wrow_close) | walk1 | (dsimp only; walk1) | (leave1; walk_say "STEP leave1"; try dsimp only) | fail "no step")
-- not into a while
local macro_rules | `(tactic| walk_at "SW") => `(tactic| repeat' ((fail_if_success (with_reducible show wpAny _ _ (exec (Stmt.While _ _ _ _) _) _ _ _)); walk_at "S"))
-- each name of a written list stands in the frame
local macro_rules | `(tactic| walk_at "NAMES") => `(tactic| (repeat (first | exact List.forall_mem_nil _ | refine List.forall_mem_cons.mpr ⟨rfl, ?_⟩)))

theorem slide_tells (w : World) (p : Program) (loose : List Str) (mean : ExcName → Option Value) (mg mb : Str → Option Value)
    (x : Str) (t : Tok) (y : Str) (u : Tok) (i : Int) (v : Tok) (g : Int) (z : Tok) (hx : x.length ≤ 1000) (hy : y.length ≤ 1000) (hi : 0 ≤ i) (hig : 0 ≤ i + g) :
    Tells PySem.Challenge.rw_fp5022_01.row.prog w p loose mean mg mb 115 1 [.str x t, .str y u, .int i v, .int g z]
      (fun r tl => tl = [] ∧ ∃ k q, r = .int k q ∧ Slid x y i g k) := by
  unfold Tells
  k_fill
  intro dp un gd cn cs a ccd cl outer A₀ base h₀ L m news s Q E B F X N T hk hd hu hret
  refine wpAny_call ?_
  k_dflt cell_enter
  walk_at "SW"
  rename Fr _ _ _ _ => F'
  rename News _ _ _ _ => N'
  refine my_while (σ := Int × Tok) (fun _ => news) (fun c => [("i", .int c.1 c.2), ("one", .str x t), ("two", .str y u), ("gap", .int g z)])
    (fun c => i ≤ c.1 ∧ ∀ j, i ≤ j → j < c.1 → j < x.length ∧ j + g < y.length ∧ At x j = At y (j + g)) (fun c => x.length - c.1.toNat) (i, v) F' N' (fun _ h => h) (by walk_at "NAMES") ⟨by omega, fun j h1 h2 => by dsimp only at h2; omega⟩ ?_
  clear F' N'
  rintro ⟨k, v'⟩ u' h' tk' ⟨hik, hin⟩ F' N'
  dsimp only at F' N' hik hin ⊢
  have hk0 : 0 ≤ k := by omega
  have hkg : 0 ≤ k + g := by omega
  k_steps
  · -- the turn
    rename ((_ == _) = true) => he
    rename (k < _) => h1
    rename (k + g < _) => h2
    rw [item_beq ⟨hk0, h1⟩ ⟨hkg, h2⟩] at he
    have he' := of_decide_eq_true he
    rename Fr _ _ _ _ => F9
    rename News _ _ _ _ => N9
    exact WEnd.intro (k + 1, _) F9 N9 (fun _ h => h) (by walk_at "NAMES") ⟨by omega, slid_more hin h1 h2 he'⟩ (by dsimp only; omega)
  · rename ((_ == _) = false) => he
    rename (k < _) => h1
    rename (k + g < _) => h2
    rw [item_beq ⟨hk0, h1⟩ ⟨hkg, h2⟩] at he
    have he' := of_decide_eq_false he
    refine hret _ [] _ _ (by assumption) (by assumption) (fun _ _ _ h => nomatch h) ⟨rfl, k, v', rfl, hik, hin, fun _ _ => he'⟩
  · refine hret _ [] _ _ (by assumption) (by assumption) (fun _ _ _ h => nomatch h) ⟨rfl, k, v', rfl, hik, hin, fun _ _ => by omega⟩
  · refine hret _ [] _ _ (by assumption) (by assumption) (fun _ _ _ h => nomatch h) ⟨rfl, k, v', rfl, hik, hin, fun _ _ => by omega⟩
end Mine

end

section
open PySem PySem.W PyProof.Rows PySem.Calls
set_option maxRecDepth 100000
set_option maxHeartbeats 4000000
namespace Mine
-- one step
local macro_rules | `(tactic| walk_at "S") => `(tactic| first | (k_unfold; (try dsimp only)) | (k_end; wrow_close) | walk1 | (dsimp only; walk1) | (leave1; walk_say "STEP leave1"; try dsimp only) | fail "no step")
-- not into a for
local macro_rules | `(tactic| walk_at "SF") => `(tactic| repeat' ((fail_if_success (with_reducible show wpAny _ _ (exec (Stmt.For _ _ _ _ _) _) _ _ _)); walk_at "S"))
local macro_rules | `(tactic| walk_at "SA") => `(tactic| repeat' ((fail_if_success (with_reducible show wpAny _ _ (exec (Stmt.AugAssign _ _ _ _) _) _ _ _)); walk_at "S"))
local macro_rules | `(tactic| walk_at "SI") => `(tactic| repeat' ((fail_if_success (with_reducible show wpAny _ _ (exec (Stmt.If _ _ _ _) _) _ _ _)); walk_at "S"))
local macro_rules | `(tactic| walk_at "RPost") => `(tactic| dsimp only [RPost])
local macro_rules | `(tactic| walk_at "WPost") => `(tactic| dsimp only [WPost])
local macro_rules | `(tactic| walk_at "SP") => `(tactic| repeat' ((fail_if_success (with_reducible show wpAny _ _ (pyIter _) _ _ _)); walk_at "S"))
local macro_rules | `(tactic| walk_at "NAMES") => `(tactic| (repeat (first | exact List.forall_mem_nil _ | refine List.forall_mem_cons.mpr ⟨rfl, ?_⟩)))
local macro_rules | `(tactic| walk_at "OTHER") => `(tactic| (intro c; (repeat (first | exact List.forall_mem_nil _ | refine List.forall_mem_cons.mpr ⟨by decide, ?_⟩))))
local macro_rules | `(tactic| walk_at "ENTERC") => `(tactic| k_dflt (refine' code_defC ?k1 ?k2 ?k3 ?k4 ?k5 ?kA ?kF ?kK ?k6 ?k7 ?k8 ?k9 ?kB ?kD ?_ ?c2 ?c3 ?c4; (case kA => exact rfl); (case kF => exact rfl); (case kK => assumption); (case k1 => k_asm); (case k2 => k_asm); (case k3 => k_asm); (case k4 => k_asm); (case k5 => k_asm); (case k6 => k_is); (case k7 => k_is); (case k8 => ktr_room); (case k9 => exact BindsTo.of_eq rfl); (case kB => exact rfl); (case kD => decide +kernel); (case c2 => exact rfl); (case c3 => exact rfl); (case c4 => exact rfl); k_whole; intro g' L' h' tk' cells' FG' F' N' Y' B' X' T' l1; (try k_lt l1); k_cells Y'; (try simp only [List.cons_append, List.nil_append] at N'); (try dsimp only); (try k_lift B'); (try k_fold)))
local macro_rules | `(tactic| walk_at "FOR") => `(tactic| ((rename Fr _ _ _ _ => lF'); (with_unfolding_all refine' For_invVF lF' ?k1 ?k2 ?_; (case k1 => exact rfl); (case k2 => exact rfl); k_whole)))

local macro_rules | `(tactic| walk_at "NAMESI") => `(tactic| (repeat (first | exact List.forall_mem_nil _ | refine List.forall_mem_cons.mpr ⟨rfl, ?_⟩ | refine List.forall_mem_cons.mpr ⟨some_int (by omega), ?_⟩)))
local macro_rules | `(tactic| k_all) => `(tactic| assumption)

structure DIn where
  vs : List Value
  ns : List Int
  p : Int
  l : Int
  cu : Int
  t1 : Tok
  t2 : Tok
  t3 : Tok
structure DSt where
  vs : List Value
  ns : List Int
  js : Int
  je : Int
  cu : Int
  t1 : Tok
  t2 : Tok
  t3 : Tok
  t4 : Tok
  t5 : Tok

theorem dist_tells (w : World) (p : Program) (loose : List Str) (mean : ExcName → Option Value) (mg mb : Str → Option Value)
    (x : Str) (t : Tok) (y : Str) (u : Tok) (n1 : Int) (v : Tok) (n2 : Int) (v2 : Tok) (pl : Int) (v3 : Tok) (b : Int) (v4 : Tok) (l : Addr)
    (h1 : 0 ≤ pl) (h2 : pl + n1 ≤ x.length) (h3 : pl + n2 ≤ y.length) (h4 : x.length ≤ 1000) (h5 : y.length ≤ 1000) (h6 : 1 ≤ n1) (h7 : n1 ≤ n2) (h8 : 1 ≤ b) (h9 : n2 - n1 ≤ b) (h10 : b < n2) (h11 : At x pl ≠ At y pl) :
    Tells PySem.Challenge.rw_fp5022_01.row.prog w p loose mean mg mb 81 1 [.str x t, .str y u, .int n1 v, .int n2 v2, .int pl v3, .int b v4, .ref l]
      (fun r tl => tl = [] ∧ ∃ q, r = .int (if (DD (sg x pl) (sg y pl) n1.toNat n2.toNat : Int) ≤ b then (DD (sg x pl) (sg y pl) n1.toNat n2.toNat : Int) else -1) q) := by
  unfold Tells
  k_fill
  intro dp un gd cn cs a ccd cl outer A₀ base h₀ L m news s Q E B F X N T hk hd hu hret
  refine wpAny_call ?_
  walk_at "ENTERC"
  rename_i g' L' h' tk' FG' F' B' X' T' l1 o' d1' N'
  replace d1' : o'.data = .cell (some (.int b v4)) := d1'
  walk_at "SF"
  rename_i h6' tk0 t1 u1 v1 a1 a2 g2 hI hL D h5' tk5 oD h4' h3' h2' h1' h0' F' N'
  obtain ⟨f, hf⟩ : ∃ f : Nat → Nat, f = sg x pl := ⟨_, rfl⟩
  obtain ⟨g, hg⟩ : ∃ f : Nat → Nat, f = sg y pl := ⟨_, rfl⟩
  have hfg : f 0 ≠ g 0 := by rw [hf, hg]; simpa [sg] using h11
  walk_at "FOR"
  walk_at "SP"
  rename_i tkr tr ur vr R F9 N9 hkeep
  refine my_range (σ := DSt) (fun c => (D, listOf c.vs.toArray ys.length) :: (L' + 1, o') :: news)
    (fun c => [("string_1", .str x t), ("string_2", .str y u), ("len_1", .int n1 v), ("len_2", .int n2 v2), ("start", .int pl v3), ("char_1_costs", .ref D), ("len_diff", .int (n2 - n1) c.t4), ("j_start_offset", .int (b - (n2 - n1)) c.t5), ("j_start", .int c.js c.t1), ("j_end", .int c.je c.t2), ("current_cost", .int c.cu c.t3)])
    (fun i c => IntsAre c.vs c.ns ∧ c.vs.length = ys.length ∧ RowI f g (n2 - n1) b n2.toNat i c.js c.ns ∧ c.js = max 0 ((i : Int) - 1 - (b - (n2 - n1))) ∧ c.je = min (b + i) n2 ∧ (1 ≤ i → c.cu = c.ns.getD (c.je - 1).toNat 0))
    ⟨ys, _, 0, b, 0, _, _, _, _, _⟩ rfl R (small_one (by omega) (by omega) (by omega) (by omega)) (rangeSize_nat _ _) F9 N9 (fun _ => rfl) (fun _ h => h) (by walk_at "NAMES") ⟨hI, rfl, ?_, by dsimp only; omega, by dsimp only; omega, fun h => by omega⟩ ?_ ?_
  · refine row_start (by dsimp only; rw [List.length_map, rangeKs_length]; omega) fun j hj => ?_
    dsimp only
    rw [List.getD_eq_getElem?_getD, List.getElem?_map]
    simp [rangeKs, show j < n2.toNat from hj]
  · clear F9 N9 hkeep
    rintro i ⟨vs, ns, js, je, cu, e1, e2, e3, e4, e5⟩ ti ui hh hk own hi hoff hmap ⟨hI, hvl, hrow, hjs, hje, hcu⟩ F' N'
    dsimp only at hI hvl hrow hjs hje hcu F' N'
    simp only [List.cons_append] at N'
    obtain ⟨js2, hjs2⟩ : ∃ z : Int, z = max 0 (↑i - (b - (n2 - n1))) := ⟨_, rfl⟩
    obtain ⟨je2, hje2⟩ : ∃ z : Int, z = min (b + i + 1) n2 := ⟨_, rfl⟩
    have hin : (i : Int) < n1 := by omega
    have hMid := mid_start (cu := cu) (lo' := js2) hfg (by omega) hrow (by omega) hjs2
    have hoffD := off_of hoff (List.Mem.head _)
    walk_at "SA"
    refine cut_stmt (fun s' => ∃ h1 tk1 u1 q1 q2, s' = { s with heap := h1, toks := tk1 } ∧ Fr g' L' h1 (bnd u1 [("string_1", .str x t), ("string_2", .str y u), ("len_1", .int n1 v), ("len_2", .int n2 v2), ("start", .int pl v3), ("char_1_costs", .ref D), ("len_diff", .int (n2 - n1) e4), ("j_start_offset", .int (b - (n2 - n1)) e5), ("j_start", .int js2 q1), ("j_end", .int je e2), ("i", .int i ti), ("char_1", .str (Txt.item x (pl + (0 + i))) q2), ("prev_char_1_cost", .int i ti), ("above_char_cost", .int i ti), ("current_cost", .int cu e3)]) ∧ News g' L' h1 ((D, listOf vs.toArray ys.length) :: (L' + 1, o') :: (news ++ own))) ?_ ?_
    · k_steps
      all_goals (
        rename Fr _ _ _ _ => F1
        rename News _ _ _ _ => N1
        refine Cut.intro ?_
        exact ⟨_, _, _, _, _, rfl, frame_as _ F1 (by walk_at "NAMESI"), N1⟩)
    clear F' N'
    rintro s1 ⟨h1, tk1, u1, q1, q2, rfl, F1, N1⟩
    dsimp only
    walk_at "SA"
    refine cut_stmt (fun s' => ∃ h1 tk1 u1 q3, s' = { s with heap := h1, toks := tk1 } ∧ Fr g' L' h1 (bnd u1 [("string_1", .str x t), ("string_2", .str y u), ("len_1", .int n1 v), ("len_2", .int n2 v2), ("start", .int pl v3), ("char_1_costs", .ref D), ("len_diff", .int (n2 - n1) e4), ("j_start_offset", .int (b - (n2 - n1)) e5), ("j_start", .int js2 q1), ("j_end", .int je2 q3), ("i", .int i ti), ("char_1", .str (Txt.item x (pl + (0 + i))) q2), ("prev_char_1_cost", .int i ti), ("above_char_cost", .int i ti), ("current_cost", .int cu e3)]) ∧ News g' L' h1 ((D, listOf vs.toArray ys.length) :: (L' + 1, o') :: (news ++ own))) ?_ ?_
    · k_steps
      all_goals (
        rename Fr _ _ _ _ => F1
        rename News _ _ _ _ => N1
        refine Cut.intro ?_
        exact ⟨_, _, _, _, rfl, frame_as _ F1 (by walk_at "NAMESI"), N1⟩)
    clear F1 N1
    rintro s1 ⟨h1, tk1, u1, q3, rfl, F1, N1⟩
    dsimp only
    walk_at "SF"
    walk_at "FOR"
    walk_at "SP"
    rename_i hr2 tkr2 tr2 ur2 vr2 R2 F3 N3 hkeep2
    rename (IntsAre vs ns) => hI
    refine my_range (σ := DIn) (fun c => (D, listOf c.vs.toArray ys.length) :: (L' + 1, o') :: (news ++ own))
        (fun c => [("string_1", .str x t), ("string_2", .str y u), ("len_1", .int n1 v), ("len_2", .int n2 v2), ("start", .int pl v3), ("char_1_costs", .ref D), ("len_diff", .int (n2 - n1) e4), ("j_start_offset", .int (b - (n2 - n1)) e5), ("j_start", .int js2 q1), ("j_end", .int je2 q3), ("i", .int i ti), ("char_1", .str (Txt.item x (pl + (0 + i))) q2), ("prev_char_1_cost", .int c.p c.t1), ("above_char_cost", .int c.l c.t2), ("current_cost", .int c.cu c.t3)])
        (fun k c => IntsAre c.vs c.ns ∧ c.vs.length = ys.length ∧ Mid f g (n2 - n1) b n2.toNat i js2 (js2.toNat + k) c.ns c.p c.l c.cu)
        ⟨vs, ns, i, i, cu, _, _, _⟩ rfl R2 (small_one (by omega) (by omega) (by omega) (by omega)) (rangeSize_nat _ _) F3 N3 (fun _ => rfl) (fun _ h => h) (by walk_at "NAMES") ⟨hI, hvl, hMid⟩ ?_ ?_
    · clear F3 N3 hkeep2
      rintro k ⟨vs, ns, pp, ll, cu, e1, e2, e3⟩ tj uj hj hkj own2 hk hoff2 hmap2 ⟨hI, hvl, hM⟩ F' N'
      dsimp only at hI hvl hM F' N'
      simp only [List.cons_append] at N'
      have hU : ∀ p ∈ (L' + 1, o') :: (news ++ own ++ own2), p.1 ≠ D := List.forall_mem_cons.mpr ⟨oD.1, List.forall_mem_append.mpr ⟨List.forall_mem_append.mpr ⟨off1_all oD.2, hoffD⟩, off_of hoff2 (List.Mem.head _)⟩⟩
      have hlen : ns.length = n2.toNat := hM.1
      obtain ⟨j, hj⟩ : ∃ j : Nat, j = js2.toNat + k := ⟨_, rfl⟩
      have hjj : js2 + (k : Int) = j := by omega
      rw [hjj] at F'
      rw [← hj] at hM
      have hfi : f i = At x (pl + (0 + i)) := by rw [hf]; simp [sg]
      have hgj : g j = At y (pl + j) := by rw [hg]; rfl
      walk_at "SI"
      refine cut_stmt (fun s' => ∃ h1 tk1 u1 q4 q5 vv, ((f i = g j ∧ vv = pp) ∨ (f i ≠ g j ∧ vv = 1 + min (min pp ll) (ns.getD j 0))) ∧ s' = { s with heap := h1, toks := tk1 } ∧ Fr g' L' h1 (bnd u1 [("string_1", .str x t), ("string_2", .str y u), ("len_1", .int n1 v), ("len_2", .int n2 v2), ("start", .int pl v3), ("char_1_costs", .ref D), ("len_diff", .int (n2 - n1) e4), ("j_start_offset", .int (b - (n2 - n1)) e5), ("j_start", .int js2 q1), ("j_end", .int je2 q3), ("i", .int i ti), ("j", .int j tj), ("char_1", .str (Txt.item x (pl + (0 + i))) q2), ("prev_char_1_cost", .int (ns.getD j 0) q4), ("above_char_cost", .int ll e2), ("current_cost", .int vv q5)]) ∧ News g' L' h1 ((D, listOf vs.toArray ys.length) :: (L' + 1, o') :: (news ++ own ++ own2))) ?_ ?_
      · k_steps
        all_goals (
          rename ((_ != _) = _) => he
          rename Fr _ _ _ _ => F1
          rename News _ _ _ _ => N1
          rw [item_bne ⟨by omega, by omega⟩ ⟨by omega, by omega⟩] at he
          simp only [decide_eq_true_eq, decide_eq_false_iff_not, Classical.not_not, ne_eq] at he
          simp only [Int.toNat_natCast] at *
          refine Cut.intro ?_
          refine ⟨_, _, _, _, _, _, ?_, rfl, frame_as _ F1 (by walk_at "NAMES"), N1⟩
          rw [hfi, hgj]
          omega)
      clear F' N'
      rintro s1 ⟨h1, tk1, u1, q4, q5, vv, hvv, rfl, F1, N1⟩
      dsimp only
      k_steps
      rename Fr _ _ _ _ => F1
      rename News _ _ _ _ => N1
      rename IntsAre _ _ => hI1
      exact REnd.intro ⟨vs.set j (.int vv q5), ns.set j vv, ns.getD j 0, vv, vv, q4, q5, q5⟩ F1 N1 (fun p hp => List.mem_append_left own2 hp) (fun p hp => List.mem_append_right ((D, _) :: (L' + 1, o') :: (news ++ own)) hp) rfl (by walk_at "NAMES") ⟨hI1, by dsimp only; rw [List.length_set]; exact hvl, by dsimp only; rw [show js2.toNat + (k + 1) = j + 1 by omega]; exact mid_step hM (by omega) (by omega) (by omega) hvv⟩
    · clear F3 N3 hkeep2
      rintro ⟨vs, ns, pp, ll, cu, e1, e2, e3⟩ uj hj hkj ⟨hI, hvl, hM⟩ F' N'
      dsimp only at hI hvl hM F' N'
      have hR := mid_end hM (by omega)
      have hlen : ns.length = n2.toNat := hR.1
      k_steps
      · -- over the bound
        have hov := over_bound (N := n1.toNat) hR (by omega) (by omega) (by omega) (by omega) (by assumption)
        rename News h₀ _ _ _ => kN9
        refine hret _ [] _ _ (by assumption) (fun p hp => kN9 p (List.Mem.tail _ (List.Mem.tail _ (List.mem_append_left _ hp)))) (fun _ _ _ h => nomatch h) ⟨rfl, _, int_ret ?_⟩
        rw [if_neg (by rw [← hf, ← hg]; omega)]
      · have hlast := hM.2.2.2.2.2.2.2 (by omega)
        exact REnd.intro ⟨vs, ns, js2, je2, cu, q1, q3, e3, e4, e5⟩ F' N' (fun p hp => List.mem_append_left own hp) (fun p hp => List.mem_append_right ((D, _) :: (L' + 1, o') :: news) hp) rfl (by walk_at "NAMES") ⟨hI, hvl, hR, by dsimp only; omega, by dsimp only; omega, fun _ => by dsimp only; rw [hlast]; congr 1; omega⟩
  · clear F9 N9 hkeep
    rintro ⟨vs, ns, js, je, cu, e1, e2, e3, e4, e5⟩ ui hh hk ⟨hI, hvl, hrow, hjs, hje, hcu⟩ F' N'
    dsimp only at hI hvl hrow hjs hje hcu F' N'
    have hfin := fin_cell (cu := cu) hrow (by omega) (by omega) (by omega) (by rw [hcu (by omega)]; congr 1; omega)
    rw [show (n1 - 0).toNat = n1.toNat by omega] at hfin
    k_steps
    all_goals (
      rename News h₀ _ _ _ => kN9
      refine hret _ [] _ _ (by assumption) (fun p hp => kN9 p (List.Mem.tail _ (List.Mem.tail _ hp))) (fun _ _ _ h => nomatch h) ⟨rfl, _, int_ret ?_⟩
      rw [← hf, ← hg, hfin])
    · rw [if_pos (by assumption)]
    · rw [if_neg (by assumption)]
end Mine

end

section
open PySem PySem.W PyProof.Rows PySem.Calls
set_option maxRecDepth 100000
set_option maxHeartbeats 4000000
namespace Mine
local macro_rules | `(tactic| walk_at "S") => `(tactic| first | (k_unfold; (try dsimp only)) | (k_end; wrow_close) | walk1 | (dsimp only; walk1) | (leave1; walk_say "STEP leave1"; try dsimp only) | fail "no step")
local macro_rules | `(tactic| walk_at "SF") => `(tactic| repeat' ((fail_if_success (with_reducible show wpAny _ _ (exec (Stmt.For _ _ _ _ _) _) _ _ _)); walk_at "S"))
local macro_rules | `(tactic| walk_at "SW") => `(tactic| repeat' ((fail_if_success (with_reducible show wpAny _ _ (exec (Stmt.While _ _ _ _) _) _ _ _)); walk_at "S"))
local macro_rules | `(tactic| walk_at "SC") => `(tactic| repeat' ((fail_if_success (with_reducible show wpAny _ _ (call (Value.ref 115) _) _ _ _)); walk_at "S"))
local macro_rules | `(tactic| walk_at "SA") => `(tactic| repeat' ((fail_if_success (with_reducible show wpAny _ _ (exec (Stmt.AugAssign _ _ _ _) _) _ _ _)); walk_at "S"))
local macro_rules | `(tactic| walk_at "SI") => `(tactic| repeat' ((fail_if_success (with_reducible show wpAny _ _ (exec (Stmt.If _ _ _ _) _) _ _ _)); walk_at "S"))
local macro_rules | `(tactic| walk_at "RPost") => `(tactic| dsimp only [RPost])
local macro_rules | `(tactic| walk_at "WPost") => `(tactic| dsimp only [WPost])
local macro_rules | `(tactic| walk_at "SP") => `(tactic| repeat' ((fail_if_success (with_reducible show wpAny _ _ (pyIter _) _ _ _)); walk_at "S"))
local macro_rules | `(tactic| walk_at "NAMES") => `(tactic| (repeat (first | exact List.forall_mem_nil _ | refine List.forall_mem_cons.mpr ⟨rfl, ?_⟩)))
local macro_rules | `(tactic| walk_at "NAMESI") => `(tactic| (repeat (first | exact List.forall_mem_nil _ | refine List.forall_mem_cons.mpr ⟨rfl, ?_⟩ | refine List.forall_mem_cons.mpr ⟨some_int (by omega), ?_⟩)))
local macro_rules | `(tactic| walk_at "ENTERC") => `(tactic| k_dflt (refine' code_defC ?k1 ?k2 ?k3 ?k4 ?k5 ?kA ?kF ?kK ?k6 ?k7 ?k8 ?k9 ?kB ?kD ?_ ?c2 ?c3 ?c4; (case kA => exact rfl); (case kF => exact rfl); (case kK => assumption); (case k1 => k_asm); (case k2 => k_asm); (case k3 => k_asm); (case k4 => k_asm); (case k5 => k_asm); (case k6 => k_is); (case k7 => k_is); (case k8 => ktr_room); (case k9 => exact BindsTo.of_eq rfl); (case kB => exact rfl); (case kD => decide +kernel); (case c2 => exact rfl); (case c3 => exact rfl); (case c4 => exact rfl); k_whole; intro g' L' h' tk' cells' FG' F' N' Y' B' X' T' l1; (try k_lt l1); k_cells Y'; (try simp only [List.cons_append, List.nil_append] at N'); (try dsimp only); (try k_lift B'); (try k_fold)))
local macro_rules | `(tactic| walk_at "FOR") => `(tactic| ((rename Fr _ _ _ _ => lF'); (with_unfolding_all refine' For_invVF lF' ?k1 ?k2 ?_; (case k1 => exact rfl); (case k2 => exact rfl); k_whole)))
local macro_rules | `(tactic| walk_at "TELLS") => `(tactic| ((case k1 => k_asm); (case k2 => k_asm); (case k3 => k_asm); (case k4 => k_asm); (case k5 => k_asm); (case kK => first | exact rfl | assumption); (case kd => ktr_room); (case ku => ktr_units)))
local macro_rules | `(tactic| walk_at "call builtin:min") => `(tactic| (k_here; (with_reducible show wpAny _ _ (call (Value.builtin "min") [Value.int _ _, Value.int _ _, Value.int _ _]) _ _ _); k_dflt (refine' min_three_N ?h1 ?h2 ?h3 ?_; (case h1 => exact rfl); (case h2 => k_asm); (case h3 => k_asm); k_whole); intro v' t' h' tk' hv' F' N'; (try k_sweep)))
local macro_rules | `(tactic| k_all) => `(tactic| assumption)

/-- the table as a function -/
def Tab (c : List (Int × Int)) (k : Int) : Option Int := (c.find? fun p => decide (p.1 = k)).map (·.2)
theorem look_tab (c : List (Int × Int)) (k d : Int) : kdfLook c k d = (Tab c k).getD d := rfl

theorem tab_put {c : List (Int × Int)} {k v j : Int} (h : Tab c k = none) : Tab (kdfPut c k v) j = if j = k then some v else Tab c j := by
  have h1 : (c.find? fun p => decide (p.1 = k)) = none := by
    unfold Tab at h
    cases e : c.find? fun p => decide (p.1 = k) with
    | none => rfl
    | some p => rw [e] at h; cases h
  have h2 : (c.any fun p => decide (p.1 = k)) = false := by
    rw [List.any_eq_false]
    exact fun p hp => List.find?_eq_none.mp h1 p hp
  unfold kdfPut Tab
  rw [h2, if_neg Bool.false_ne_true, List.find?_append]
  by_cases e : j = k
  · subst e
    rw [h1, if_pos rfl]
    simp
  · rw [if_neg e]
    cases hc : c.find? fun p => decide (p.1 = j) with
    | some p => rfl
    | none =>
      have e' : ¬ k = j := fun q => e q.symm
      simp [e']

theorem slidF_of {x y : Str} {i k v : Int} (hi : 0 ≤ i) (hik : 0 ≤ i + k) (h : Slid x y i k v) : SlidF (sg x 0) (sg y 0) x.length y.length i k v := by
  obtain ⟨a, b, c⟩ := h
  refine ⟨a, fun j h1 h2 => ?_, fun h1 h2 => ?_⟩
  · obtain ⟨q1, q2, q3⟩ := b j h1 h2
    refine ⟨q1, q2, ?_⟩
    unfold sg
    rw [show (0 : Int) + (j.toNat : Int) = j by omega, show (0 : Int) + ((j + k).toNat : Int) = j + k by omega]
    exact q3
  · have q := c h1 h2
    unfold sg
    rw [show (0 : Int) + (v.toNat : Int) = v by omega, show (0 : Int) + ((v + k).toNat : Int) = v + k by omega]
    exact q

structure RSt where
  d : Addr
  o : Obj
  kvs : List (Int × Value)
  c : List (Int × Int)
  e : Int
  te : Tok
structure RIn where
  o : Obj
  kvs : List (Int × Value)
  c : List (Int × Int)

theorem reach_tells (w : World) (p : Program) (loose : List Str) (mean : ExcName → Option Value) (mg mb : Str → Option Value)
    (x : Str) (t : Tok) (y : Str) (u : Tok) (hx : x.length ≤ 100) (hy : y.length ≤ 100) :
    Tells PySem.Challenge.rw_fp5022_01.row.prog w p loose mean mg mb 122 2 [.str x t, .str y u]
      (fun r tl => tl = [] ∧ ∃ q, r = .int (DD (sg x 0) (sg y 0) x.length y.length) q) := by
  unfold Tells
  k_fill
  intro dp un gd cn cs a ccd cl outer A₀ base h₀ L m news s Q E B F X N T hk hd hu hret
  refine wpAny_call ?_
  k_dflt cell_enter
  rename_i g' L' h' FG' F' N' B' X' T'
  walk_at "SC"
  refine' tells_use (slide_tells w p loose mean mg mb x _ y _ 0 _ 0 _ (by omega) (by omega) (by omega) (by omega)) ?k1 ?k2 ?k3 ?k4 ?k5 ?kK ?kd ?ku ?_
  walk_at "TELLS"
  rintro r tl h9 tk9 F9 N9 o9 ⟨rfl, k0, q0, rfl, hsl⟩
  simp only [List.nil_append] at N9
  dsimp only
  walk_at "SW"
  rename_i tkd d0 h5 oe hlt hlo hde h4 o0 hd0 hf0 h3 tk2 h2 h1 F1 N1
  obtain ⟨f, hf⟩ : ∃ f : Nat → Nat, f = sg x 0 := ⟨_, rfl⟩
  obtain ⟨g, hg⟩ : ∃ f : Nat → Nat, f = sg y 0 := ⟨_, rfl⟩
  refine my_while (σ := RSt) (fun c => (c.d, c.o) :: news) (fun c => [("one", .str x t), ("two", .str y u), ("reach", .ref c.d), ("goal", .int (y.length - x.length) _), ("done", .int c.e c.te)])
    (fun c => c.o.IsDictOf (intKind PySem.Challenge.rw_fp5022_01.row.prog w) c.kvs ∧ PyProof.V.FlatPairs PyData.int c.kvs (kdfD c.c) ∧ c.c.length ≤ 1000 ∧ 0 ≤ c.e ∧ c.e ≤ DZ f g x.length y.length ∧ (∀ p ∈ news, p.1 < c.d) ∧ (c.d == sysModules) = false ∧ ∀ k, Entry f g x.length y.length c.e k (Tab c.c k))
    (fun c => (DZ f g x.length y.length - c.e).toNat) ⟨d0, o0, _, [(0, k0)], 0, _⟩ F1 N1 (fun _ h => h) (by walk_at "NAMES") ⟨hd0, hf0, by simp, by simp, ?_, hlt, hlo, ?_⟩ ?_
  · dsimp only; unfold DZ; omega
  · intro k
    by_cases ek : k = 0
    · subst ek
      exact entry_start (by omega) (by omega) (hf ▸ hg ▸ slidF_of (by omega) (by omega) hsl)
    · have ek' : ¬ 0 = k := fun q => ek q.symm
      have e1 : Tab [((0 : Int), k0)] k = none := by unfold Tab; simp [ek']
      dsimp only
      rw [e1]
      exact entry_far (by omega)
  clear F1 N1
  rintro ⟨d, o, kvs, c, e, te⟩ u1 h1 tk1 ⟨hd, hfp, hcl, he0, he1, hlt, hlo, hI⟩ F1 N1
  dsimp only at hd hfp hcl he0 he1 hlt hlo hI F1 N1 ⊢
  have he2 : e ≤ 100 := by
    have q := dd_high (f := f) (g := g) (x.length : Int).toNat (y.length : Int).toNat
    unfold DZ at he1
    omega
  walk_at "SF"
  · rename_i tq hgoal d2 h2 o2 lo2 hs2 fs2 hi2 fi2 l2 h3 F1 N1
    have hlt2 : ∀ p ∈ news, p.1 ≠ d2 := fun p hp => Nat.ne_of_lt (Nat.lt_trans (hlt p hp) l2.1)
    walk_at "FOR"
    walk_at "SP"
    rename_i tkr tr ur vr R F2 N2 hkeep
    refine my_range (σ := RIn) (fun c => (d2, c.o) :: (d, o) :: news) (fun c => [("one", .str x t), ("two", .str y u), ("reach", .ref d), ("goal", .int (y.length - x.length) _), ("done", .int e te), ("later", .ref d2)])
      (fun n c => c.o.IsDictOf (intKind PySem.Challenge.rw_fp5022_01.row.prog w) c.kvs ∧ PyProof.V.FlatPairs PyData.int c.kvs (kdfD c.c) ∧ c.c.length ≤ n ∧ (∀ k, k < -e - 1 + n → Entry f g x.length y.length (e + 1) k (Tab c.c k)) ∧ ∀ k, -e - 1 + n ≤ k → Tab c.c k = none)
      ⟨o2, [], []⟩ rfl R (small_one (by omega) (by omega) (by omega) (by omega)) (rangeSize_nat _ _) F2 N2 (fun _ => rfl) (fun _ h => h) (by walk_at "NAMES") ⟨hi2, fi2, by simp, fun k hk => by exact entry_far (by omega), fun k hk => rfl⟩ ?_ ?_
    · clear F2 N2 hkeep
      rintro n ⟨o3, kvs3, c3⟩ tg ug hg3 tk3 own hn hoff hmap ⟨hd3, hfp3, hcl3, hI3, hno3⟩ F1 N1
      dsimp only at hd3 hfp3 hcl3 hI3 hno3 F1 N1
      simp only [List.cons_append] at N1
      have hU : ∀ p ∈ (d, o) :: (news ++ own), p.1 ≠ d2 := List.forall_mem_cons.mpr ⟨Nat.ne_of_lt l2.1, List.forall_mem_append.mpr ⟨hlt2, off_of hoff (List.Mem.head _)⟩⟩
      have hc4 : c3.length ≤ 16777216 := by omega
      walk_at "SI"
      rename_i MM tM kM FM NM hM1 hM2 hA tA iv ti hB tB hv hC F2 N2
      have N3 : News g' L' hC ((d2, o3) :: (d, o) :: (news ++ own)) := fun p hp => N2 p (.tail _ hp)
      clear N2 FM NM
      obtain ⟨gk, hgk⟩ : ∃ gk : Int, gk = -e - 1 + n := ⟨_, rfl⟩
      rw [← hgk] at hM1 hM2 hv F2 hI3 hno3
      have hiv : iv = min (min (max (max ((Tab c gk).getD (-9) + 1) ((Tab c (gk - 1)).getD (-9))) ((Tab c (gk + 1)).getD (-9) + 1)) x.length) (y.length - gk) := by
        simp only [look_tab] at hM1 hM2
        omega
      clear hM1 hM2 hv
      walk_at "SC"
      · refine' tells_use (slide_tells w p loose mean mg mb x _ y _ iv _ gk _ (by omega) (by omega) (by omega) (by omega)) ?k1 ?k2 ?k3 ?k4 ?k5 ?kK ?kd ?ku ?_
        walk_at "TELLS"
        rintro r tl h9 tk9 F9 N9 o9 ⟨rfl, v9, q9, rfl, hsl9⟩
        simp only [List.nil_append] at N9
        dsimp only
        k_steps
        rename_i hS oS kvS FS NS hdS hfS
        have hz := entry_slid hI hiv (by omega) (by omega) (hf ▸ hg ▸ slidF_of (by omega) (by omega) hsl9)
        have hnk : Tab c3 gk = none := hno3 gk (Int.le_refl _)
        refine REnd.intro ⟨oS, kvS, kdfPut c3 gk v9⟩ FS NS (fun p hp => List.mem_append_left own hp) (fun p hp => List.mem_append_right ((d2, _) :: (d, o) :: news) hp) rfl (by walk_at "NAMES") ⟨hdS, hfS, Nat.le_trans (kdfPut_len _ _ _) (by omega), fun k hk => ?_, fun k hk => ?_⟩
        · dsimp only
          rw [tab_put hnk]
          by_cases ek : k = gk
          · rw [if_pos ek, ek]; exact hz
          · rw [if_neg ek]; exact hI3 k (by omega)
        · dsimp only
          rw [tab_put hnk, if_neg (by omega)]
          exact hno3 k (by omega)
      all_goals (
        have hz := entry_miss (f := f) (g := g) he0 hI hiv (by omega)
        have hnk : Tab c3 gk = none := hno3 gk (Int.le_refl _)
        rename Fr _ _ _ _ => FS
        rename News _ _ _ _ => NS
        refine REnd.intro ⟨o3, kvs3, c3⟩ FS NS (fun p hp => List.mem_append_left own hp) (fun p hp => List.mem_append_right ((d2, _) :: (d, o) :: news) hp) rfl (by walk_at "NAMES") ⟨hd3, hfp3, Nat.le_succ_of_le hcl3, fun k hk => ?_, fun k hk => hno3 k (by omega)⟩
        dsimp only at hk ⊢
        by_cases ek : k = gk
        · rw [ek, hnk]; exact hz
        · exact hI3 k (by omega))
    · clear F2 N2 hkeep
      rintro ⟨o3, kvs3, c3⟩ ug hg3 tk3 ⟨hd3, hfp3, hcl3, hI3, hno3⟩ F1 N1
      dsimp only at hd3 hfp3 hcl3 hI3 hno3 F1 N1
      k_steps
      rename Fr _ _ _ _ => FS
      rename News _ _ _ _ => NS
      have hmore : e < DZ f g x.length y.length := (goal_at (by omega) (by omega) hI).mp hgoal
      refine WEnd.intro ⟨d2, o3, kvs3, c3, e + 1, _⟩ FS NS (fun p hp => ?_) (by walk_at "NAMES") ⟨hd3, hfp3, by dsimp only; omega, by dsimp only; omega, by dsimp only; omega, fun p hp => Nat.lt_trans (hlt p hp) l2.1, lo2, fun k => ?_⟩ (by dsimp only; omega)
      · rcases List.mem_cons.mp hp with rfl | hp
        · exact .head _
        · exact .tail _ (.tail _ hp)
      · dsimp only
        by_cases ek : k < e + 2
        · exact hI3 k (by omega)
        · rw [hno3 k (by omega)]
          exact entry_far (by omega)
  · rename (¬ _ < _) => hgoal
    have hless : ¬ e < DZ f g x.length y.length := fun h => hgoal ((goal_at (by omega) (by omega) hI).mpr h)
    rename News h₀ _ _ _ => kN9
    refine hret _ [] _ _ (by assumption) (fun p hp => kN9 p (.tail _ hp)) (fun _ _ _ h => nomatch h) ⟨rfl, _, int_ret ?_⟩
    unfold DZ at he1 hless
    rw [← hf, ← hg]
    simp only [Int.toNat_natCast] at he1 hless
    omega
end Mine

end

section
open PySem PySem.W PyProof.Rows PySem.Calls
namespace Mine

theorem indices_from1 {n : Nat} (h : 1 ≤ n) : (PySem.Builtin.Str.strSliceIndices (some 1) none 1 n).length = n - 1 := by
  unfold PySem.Builtin.Str.strSliceIndices PySem.sliceRange
  simp only [show (1 : Int) > 0 by decide, if_true, List.length_map, List.length_range, show ¬ (1 : Int) < 0 by decide, if_false]
  split <;> omega
theorem cut1_less {x : Str} (h : 1 ≤ x.length) : (Txt.slice x (some 1) none).length < x.length := by
  have e := indices_from1 h
  unfold Txt.slice
  split
  · rename_i c
    rw [e] at c
    simp at c
    omega
  · show (Array.size _) < x.length
    rw [List.size_toArray]
    have q := List.length_filterMap_le (x.cps[·]?) (PySem.Builtin.Str.strSliceIndices (some 1) none 1 x.length)
    omega

theorem slice_len_le (x : Str) (l u : Option Int) : (Txt.slice x l u).length ≤ (PySem.Builtin.Str.strSliceIndices l u 1 x.length).length := by
  unfold Txt.slice
  split
  · rename_i c
    simp at c
    omega
  · show (Array.size _) ≤ _
    rw [List.size_toArray]
    exact List.length_filterMap_le _ _
theorem upto_le (x : Str) {q : Int} (h : 0 ≤ q) : ((Txt.slice x none (some q)).length : Int) ≤ q := by
  have e := slice_len_le x none (some q)
  have e2 : ((PySem.Builtin.Str.strSliceIndices none (some q) 1 x.length).length : Int) ≤ q := by
    unfold PySem.Builtin.Str.strSliceIndices PySem.sliceRange
    simp only [show (1 : Int) > 0 by decide, if_true, List.length_map, List.length_range]
    split <;> (try split) <;> omega
  omega
theorem from_le (x : Str) {q : Int} (h : 0 ≤ q) : ((Txt.slice x (some q) none).length : Int) ≤ max 0 (x.length - q) := by
  have e := slice_len_le x (some q) none
  have e2 : ((PySem.Builtin.Str.strSliceIndices (some q) none 1 x.length).length : Int) ≤ max 0 (x.length - q) := by
    unfold PySem.Builtin.Str.strSliceIndices PySem.sliceRange
    simp only [show (1 : Int) > 0 by decide, if_true, List.length_map, List.length_range]
    split <;> (try split) <;> omega
  omega

theorem len_mul1 {x : Str} {n : Int} (hx : x.length = 1) (hn : 0 ≤ n) : ((Txt.mul x n).length : Int) = n := by
  rw [len_mul_k 1 hx, if_neg (by omega)]
  omega

theorem at_app {u a z : Str} {i k : Int} (hi : i = u.length) (h0 : 0 ≤ k) (h1 : k < a.length) : At (u ++ a ++ z) (i + k) = At a k := by
  subst hi
  have e1 : ((u.length : Int) + k).toNat = u.cps.size + k.toNat := by unfold Str.length; omega
  have h1' : k.toNat < a.cps.size := by unfold Str.length at h1; omega
  show ((u.cps ++ a.cps) ++ z.cps).getD ((u.length : Int) + k).toNat 0 = a.cps.getD k.toNat 0
  rw [e1, Array.getD_eq_getD_getElem?, Array.getD_eq_getD_getElem?, Array.getElem?_append_left (by rw [Array.size_append]; omega), Array.getElem?_append_right (by omega)]
  congr 2
  omega

/-- only the signs within the window count -/
theorem dd_congr {f f' g g' : Nat → Nat} : ∀ (n i j : Nat), i + j ≤ n → (∀ k, k < i → f k = f' k) → (∀ k, k < j → g k = g' k) → DD f g i j = DD f' g' i j
  | _, 0, j, _, _, _ => by rw [dd0, dd0]
  | _, i + 1, 0, _, _, _ => by rw [dd_0, dd_0]
  | 0, i + 1, j + 1, h, _, _ => by omega
  | n + 1, i + 1, j + 1, h, hf, hg => by
    have e1 := dd_congr n i j (by omega) (fun k hk => hf k (by omega)) fun k hk => hg k (by omega)
    have e2 := dd_congr n i (j + 1) (by omega) (fun k hk => hf k (by omega)) hg
    have e3 := dd_congr n (i + 1) j (by omega) hf fun k hk => hg k (by omega)
    have ef := hf i (by omega)
    have eg := hg j (by omega)
    by_cases c : f i = g j
    · rw [dd_eq c, dd_eq (by rw [← ef, ← eg]; exact c), e1]
    · rw [dd_ne c, dd_ne (by rw [← ef, ← eg]; exact c), e1, e2, e3]

theorem dd_window {u a z u' a' z' : Str} {pl : Int} (hu : pl = u.length) (hu' : pl = u'.length) :
    DD (sg (u ++ a ++ z) pl) (sg (u' ++ a' ++ z') pl) a.length a'.length = DD (sg a 0) (sg a' 0) a.length a'.length := by
  refine dd_congr _ _ _ (Nat.le_refl _) (fun k hk => ?_) fun k hk => ?_
  · show At (u ++ a ++ z) (pl + (k : Int)) = At a (0 + (k : Int))
    rw [at_app hu (by omega) (by omega)]
    congr 1
    omega
  · show At (u' ++ a' ++ z') (pl + (k : Int)) = At a' (0 + (k : Int))
    rw [at_app hu' (by omega) (by omega)]
    congr 1
    omega
end Mine

end

section
open PySem PySem.W PyProof.Rows PySem.Calls
set_option maxRecDepth 100000
set_option maxHeartbeats 4000000
namespace Mine
local macro_rules | `(tactic| walk_at "S") => `(tactic| first | (k_unfold; (try dsimp only)) | (k_end; wrow_close) | walk1 | (dsimp only; walk1) | (leave1; walk_say "STEP leave1"; try dsimp only) | fail "no step")
local macro_rules | `(tactic| walk_at "SF") => `(tactic| repeat' ((fail_if_success (with_reducible show wpAny _ _ (exec (Stmt.For _ _ _ _ _) _) _ _ _)); walk_at "S"))
local macro_rules | `(tactic| walk_at "SW") => `(tactic| repeat' ((fail_if_success (with_reducible show wpAny _ _ (exec (Stmt.While _ _ _ _) _) _ _ _)); walk_at "S"))
local macro_rules | `(tactic| walk_at "SA") => `(tactic| repeat' ((fail_if_success (with_reducible show wpAny _ _ (exec (Stmt.AugAssign _ _ _ _) _) _ _ _)); walk_at "S"))
local macro_rules | `(tactic| walk_at "SI") => `(tactic| repeat' ((fail_if_success (with_reducible show wpAny _ _ (exec (Stmt.If _ _ _ _) _) _ _ _)); walk_at "S"))
local macro_rules | `(tactic| walk_at "RPost") => `(tactic| dsimp only [RPost])
local macro_rules | `(tactic| walk_at "WPost") => `(tactic| dsimp only [WPost])
local macro_rules | `(tactic| walk_at "SP") => `(tactic| repeat' ((fail_if_success (with_reducible show wpAny _ _ (pyIter _) _ _ _)); walk_at "S"))
local macro_rules | `(tactic| walk_at "NAMES") => `(tactic| (repeat (first | exact List.forall_mem_nil _ | refine List.forall_mem_cons.mpr ⟨rfl, ?_⟩)))
local macro_rules | `(tactic| walk_at "NAMESI") => `(tactic| (repeat (first | exact List.forall_mem_nil _ | refine List.forall_mem_cons.mpr ⟨rfl, ?_⟩ | refine List.forall_mem_cons.mpr ⟨some_int (by omega), ?_⟩)))
local macro_rules | `(tactic| walk_at "ENTERC") => `(tactic| k_dflt (refine' code_defC ?k1 ?k2 ?k3 ?k4 ?k5 ?kA ?kF ?kK ?k6 ?k7 ?k8 ?k9 ?kB ?kD ?_ ?c2 ?c3 ?c4; (case kA => exact rfl); (case kF => exact rfl); (case kK => assumption); (case k1 => k_asm); (case k2 => k_asm); (case k3 => k_asm); (case k4 => k_asm); (case k5 => k_asm); (case k6 => k_is); (case k7 => k_is); (case k8 => ktr_room); (case k9 => exact BindsTo.of_eq rfl); (case kB => exact rfl); (case kD => decide +kernel); (case c2 => exact rfl); (case c3 => exact rfl); (case c4 => exact rfl); k_whole; intro g' L' h' tk' cells' FG' F' N' Y' B' X' T' l1; (try k_lt l1); k_cells Y'; (try simp only [List.cons_append, List.nil_append] at N'); (try dsimp only); (try k_lift B'); (try k_fold)))
local macro_rules | `(tactic| walk_at "FOR") => `(tactic| ((rename Fr _ _ _ _ => lF'); (with_unfolding_all refine' For_invVF lF' ?k1 ?k2 ?_; (case k1 => exact rfl); (case k2 => exact rfl); k_whole)))
local macro_rules | `(tactic| walk_at "TELLS") => `(tactic| ((case k1 => k_asm); (case k2 => k_asm); (case k3 => k_asm); (case k4 => k_asm); (case k5 => k_asm); (case kK => first | exact rfl | assumption); (case kd => ktr_room); (case ku => ktr_units)))
local macro_rules | `(tactic| walk_at "call builtin:min") => `(tactic| (k_here; (with_reducible show wpAny _ _ (call (Value.builtin "min") [Value.int _ _, Value.int _ _, Value.int _ _]) _ _ _); k_dflt (refine' min_three_N ?h1 ?h2 ?h3 ?_; (case h1 => exact rfl); (case h2 => k_asm); (case h3 => k_asm); k_whole); intro v' t' h' tk' hv' F' N'; (try k_sweep)))
local macro_rules | `(tactic| walk_at "SR") => `(tactic| repeat' ((fail_if_success (with_reducible show wpAny _ _ (call (Value.ref 122) _) _ _ _)); walk_at "S"))

/-- what _law_pair gives back -/
def PairOk (x y : Str) (X Y : Str) (n1 n2 pl far : Int) : Prop :=
  0 ≤ n1 ∧ n1 ≤ n2 ∧ n2 ≤ 100 ∧ pl + n1 ≤ X.length ∧ pl + n2 ≤ Y.length ∧ X.length ≤ 1000 ∧ Y.length ≤ 1000 ∧ (1 ≤ n1 → At X pl ≠ At Y pl) ∧ far = DD (sg X pl) (sg Y pl) n1.toNat n2.toNat ∧
  (0 < x.length → 0 < y.length → At x 0 ≠ At y 0 → n1 = min (x.length : Int) y.length ∧ n2 = max (x.length : Int) y.length)
abbrev tup (vs : List Value) : Obj := { cls := .type "tuple", data := .seq vs.toArray }

structure PSt where
  x : Str
  t : Tok
  y : Str
  u : Tok

theorem pair_tells (w : World) (p : Program) (loose : List Str) (mean : ExcName → Option Value) (mg mb : Str → Option Value)
    (x : Str) (t : Tok) (y : Str) (u : Tok) (pl : Int) (v : Tok) (hx : x.length ≤ 100) (hy : y.length ≤ 100) (hp0 : 0 ≤ pl) (hp1 : pl ≤ 10) :
    Tells PySem.Challenge.rw_fp5022_01.row.prog w p loose mean mg mb 129 3 [.str x t, .str y u, .int pl v]
      (fun r tl => ∃ q X Y n1 n2 far t1 t2 t3 t4 t5 t6, r = .ref q ∧ tl = [(q, tup [.str X t1, .str Y t2, .int n1 t3, .int n2 t4, .int pl t5, .int far t6])] ∧ PairOk x y X Y n1 n2 pl far) := by
  unfold Tells
  k_fill
  intro dp un gd cn cs a ccd cl outer A₀ base h₀ L m news s Q E B F X N T hk hd hu hret
  refine wpAny_call ?_
  k_dflt cell_enter
  rename_i g' L' h' FG' F' N' B' X' T'
  walk_at "SW"
  refine cut_stmt (fun s' => ∃ h1 tk1 um A ta B tb, (A.length ≤ x.length ∧ B.length ≤ y.length ∧ (0 < x.length → 0 < y.length → At x 0 ≠ At y 0 → A = x ∧ B = y) ∧ (0 < A.length → 0 < B.length → At A 0 ≠ At B 0)) ∧ s' = { s with heap := h1, toks := tk1 } ∧ Fr g' L' h1 (bnd um [("one", .str A ta), ("two", .str B tb), ("place", .int pl v)]) ∧ News g' L' h1 news) ?_ ?_
  · refine my_while (σ := PSt) (fun c => news) (fun c => [("one", .str c.x c.t), ("two", .str c.y c.u), ("place", .int pl v)])
      (fun c => c.x.length ≤ x.length ∧ c.y.length ≤ y.length ∧ (0 < x.length → 0 < y.length → At x 0 ≠ At y 0 → c.x = x ∧ c.y = y))
      (fun c => c.x.length) ⟨x, t, y, u⟩ F' N' (fun _ h => h) (by walk_at "NAMES") ⟨Nat.le_refl _, Nat.le_refl _, fun _ _ _ => ⟨rfl, rfl⟩⟩ ?_
    clear F' N'
    rintro ⟨x1, t1, y1, u1⟩ um h1 tk1 ⟨hx1, hy1, hxy⟩ F1 N1
    dsimp only at hx1 hy1 hxy F1 N1 ⊢
    k_steps
    · rename ((_ == _) = true) => he
      rename Fr _ _ _ _ => F2
      rename News _ _ _ _ => N2
      rw [item_beq ⟨by omega, by omega⟩ ⟨by omega, by omega⟩] at he
      have he' := of_decide_eq_true he
      have c1 := cut1_less (x := x1) (by omega)
      have c2 := cut1_less (x := y1) (by omega)
      refine WEnd.intro ⟨Txt.slice x1 (some 1) none, _, Txt.slice y1 (some 1) none, _⟩ F2 (fun p hp => N2 p (.tail _ hp)) (fun _ h => h) (by walk_at "NAMES") ⟨by dsimp only; omega, by dsimp only; omega, fun a b c => ?_⟩ (by dsimp only; omega)
      obtain ⟨e1, e2⟩ := hxy a b c
      subst e1 e2
      exact absurd he' c
    · rename ((_ == _) = false) => he
      rename Fr _ _ _ _ => F2
      rename News _ _ _ _ => N2
      rw [item_beq ⟨by omega, by omega⟩ ⟨by omega, by omega⟩] at he
      have he' := of_decide_eq_false he
      refine Cut.intro ?_
      exact ⟨_, _, _, _, _, _, _, ⟨hx1, hy1, hxy, fun _ _ => he'⟩, rfl, F2, N2⟩
    all_goals (
      rename Fr _ _ _ _ => F2
      rename News _ _ _ _ => N2
      refine Cut.intro ?_
      exact ⟨_, _, _, _, _, _, _, ⟨hx1, hy1, hxy, fun _ _ => by omega⟩, rfl, F2, N2⟩)
  clear F' N'
  rintro s1 ⟨h1, tk1, um, A, ta, B9, tb, ⟨hA1, hB1, hAB, hne⟩, rfl, F1, N1⟩
  dsimp only
  walk_at "SI"
  refine cut_stmt (fun s' => ∃ h1 tk1 um A ta B tb, (A.length ≤ 100 ∧ B.length ≤ 100 ∧ A.length ≤ B.length ∧ (0 < x.length → 0 < y.length → At x 0 ≠ At y 0 → A.length = min x.length y.length ∧ B.length = max x.length y.length) ∧ (0 < A.length → 0 < B.length → At A 0 ≠ At B 0)) ∧ s' = { s with heap := h1, toks := tk1 } ∧ Fr g' L' h1 (bnd um [("one", .str A ta), ("two", .str B tb), ("place", .int pl v)]) ∧ News g' L' h1 news) ?_ ?_
  · k_steps
    · rename Fr _ _ _ _ => F2
      rename News _ _ _ _ => N2
      refine Cut.intro ?_
      exact ⟨_, _, _, B9, _, A, _, ⟨by omega, by omega, by omega, fun a b c => by obtain ⟨e1, e2⟩ := hAB a b c; subst e1 e2; omega, fun a b => Ne.symm (hne b a)⟩, rfl, frame_as _ F2 (by walk_at "NAMES"), fun p hp => N2 p (.tail _ hp)⟩
    · rename Fr _ _ _ _ => F2
      rename News _ _ _ _ => N2
      refine Cut.intro ?_
      exact ⟨_, _, _, A, _, B9, _, ⟨by omega, by omega, by omega, fun a b c => by obtain ⟨e1, e2⟩ := hAB a b c; subst e1 e2; omega, hne⟩, rfl, frame_as _ F2 (by walk_at "NAMES"), N2⟩
  clear F1 N1 hne hAB hA1 hB1 A ta B9 tb
  rintro s1 ⟨h1, tk1, um, A, ta, B9, tb, ⟨hA1, hB1, hle, hAB, hne⟩, rfl, F1, N1⟩
  dsimp only
  walk_at "SR"
  refine' tells_use (reach_tells w p loose mean mg mb A _ B9 _ (by omega) (by omega)) ?k1 ?k2 ?k3 ?k4 ?k5 ?kK ?kd ?ku ?_
  walk_at "TELLS"
  rintro r tl h9 tk9 F9 N9 o9 ⟨rfl, q9, rfl⟩
  simp only [List.nil_append] at N9
  dsimp only
  k_steps
  rename News h₀ _ _ _ => kN9
  rename (∀ p ∈ news, p.1 < _) => l1
  have hX := len_mul1 (x := Str.ofString "x") (n := pl) (by decide +kernel) hp0
  have hY := len_mul1 (x := Str.ofString "y") (n := pl) (by decide +kernel) hp0
  have hyx : (Str.ofString "yx").length = 2 := by decide +kernel
  have hx1 : (Str.ofString "x").length = 1 := by decide +kernel
  refine hret _ [_] _ _ (by assumption) kN9 (fun q hq p hp => ?_) ⟨_, _, _, _, _, _, _, _, _, _, _, _, rfl, rfl, ?_⟩
  · rw [List.mem_singleton.mp hp]
    exact l1 q hq
  · refine ⟨by omega, by omega, by omega, ?_, ?_, ?_, ?_, fun h => ?_, ?_, fun a b c => ?_⟩
    · rw [PySem.Str.length_append, PySem.Str.length_append]; omega
    · rw [PySem.Str.length_append, PySem.Str.length_append]; omega
    · rw [PySem.Str.length_append, PySem.Str.length_append]; omega
    · rw [PySem.Str.length_append, PySem.Str.length_append]; omega
    · have e1 := at_app (u := Txt.mul (Str.ofString "x") pl) (a := A) (z := Str.ofString "yx") (i := pl) (k := 0) (by omega) (by omega) (by omega)
      have e2 := at_app (u := Txt.mul (Str.ofString "y") pl) (a := B9) (z := Str.ofString "x") (i := pl) (k := 0) (by omega) (by omega) (by omega)
      rw [Int.add_zero] at e1 e2
      rw [e1, e2]
      exact hne (by omega) (by omega)
    · rw [Int.toNat_natCast, Int.toNat_natCast, dd_window (by omega) (by omega)]
    · have := hAB a b c
      omega
end Mine

end

section
open PySem PySem.W PyProof.Rows PySem.Calls
set_option maxRecDepth 100000
set_option maxHeartbeats 4000000
namespace Mine
local macro_rules | `(tactic| walk_at "S") => `(tactic| first | (k_unfold; (try dsimp only)) | (k_end; wrow_close) | walk1 | (dsimp only; walk1) | (leave1; walk_say "STEP leave1"; try dsimp only) | fail "no step")
local macro_rules | `(tactic| walk_at "SF") => `(tactic| repeat' ((fail_if_success (with_reducible show wpAny _ _ (exec (Stmt.For _ _ _ _ _) _) _ _ _)); walk_at "S"))
local macro_rules | `(tactic| walk_at "SW") => `(tactic| repeat' ((fail_if_success (with_reducible show wpAny _ _ (exec (Stmt.While _ _ _ _) _) _ _ _)); walk_at "S"))
local macro_rules | `(tactic| walk_at "SA") => `(tactic| repeat' ((fail_if_success (with_reducible show wpAny _ _ (exec (Stmt.AugAssign _ _ _ _) _) _ _ _)); walk_at "S"))
local macro_rules | `(tactic| walk_at "SI") => `(tactic| repeat' ((fail_if_success (with_reducible show wpAny _ _ (exec (Stmt.If _ _ _ _) _) _ _ _)); walk_at "S"))
local macro_rules | `(tactic| walk_at "RPost") => `(tactic| dsimp only [RPost])
local macro_rules | `(tactic| walk_at "WPost") => `(tactic| dsimp only [WPost])
local macro_rules | `(tactic| walk_at "SP") => `(tactic| repeat' ((fail_if_success (with_reducible show wpAny _ _ (pyIter _) _ _ _)); walk_at "S"))
local macro_rules | `(tactic| walk_at "NAMES") => `(tactic| (repeat (first | exact List.forall_mem_nil _ | refine List.forall_mem_cons.mpr ⟨rfl, ?_⟩)))
local macro_rules | `(tactic| walk_at "NAMESI") => `(tactic| (repeat (first | exact List.forall_mem_nil _ | refine List.forall_mem_cons.mpr ⟨rfl, ?_⟩ | refine List.forall_mem_cons.mpr ⟨some_int (by omega), ?_⟩)))
local macro_rules | `(tactic| walk_at "ENTERC") => `(tactic| k_dflt (refine' code_defC ?k1 ?k2 ?k3 ?k4 ?k5 ?kA ?kF ?kK ?k6 ?k7 ?k8 ?k9 ?kB ?kD ?_ ?c2 ?c3 ?c4; (case kA => exact rfl); (case kF => exact rfl); (case kK => assumption); (case k1 => k_asm); (case k2 => k_asm); (case k3 => k_asm); (case k4 => k_asm); (case k5 => k_asm); (case k6 => k_is); (case k7 => k_is); (case k8 => ktr_room); (case k9 => exact BindsTo.of_eq rfl); (case kB => exact rfl); (case kD => decide +kernel); (case c2 => exact rfl); (case c3 => exact rfl); (case c4 => exact rfl); k_whole; intro g' L' h' tk' cells' FG' F' N' Y' B' X' T' l1; (try k_lt l1); k_cells Y'; (try simp only [List.cons_append, List.nil_append] at N'); (try dsimp only); (try k_lift B'); (try k_fold)))
local macro_rules | `(tactic| walk_at "FOR") => `(tactic| ((rename Fr _ _ _ _ => lF'); (with_unfolding_all refine' For_invVF lF' ?k1 ?k2 ?_; (case k1 => exact rfl); (case k2 => exact rfl); k_whole)))
local macro_rules | `(tactic| walk_at "TELLS") => `(tactic| ((case k1 => k_asm); (case k2 => k_asm); (case k3 => k_asm); (case k4 => k_asm); (case k5 => k_asm); (case kK => first | exact rfl | assumption); (case kd => ktr_room); (case ku => ktr_units)))
local macro_rules | `(tactic| walk_at "call builtin:min") => `(tactic| (k_here; (with_reducible show wpAny _ _ (call (Value.builtin "min") [Value.int _ _, Value.int _ _, Value.int _ _]) _ _ _); k_dflt (refine' min_three_N ?h1 ?h2 ?h3 ?_; (case h1 => exact rfl); (case h2 => k_asm); (case h3 => k_asm); k_whole); intro v' t' h' tk' hv' F' N'; (try k_sweep)))

theorem pow4_ne (k : Nat) : (4 : Int) ^ k ≠ 0 := by
  have : (0 : Int) < 4 ^ k := Int.pow_pos (by decide)
  omega
theorem pow4_small {k : Nat} (h : k ≤ 6) : ((4 : Int) ^ k).natAbs < 1073741824 := by
  have : k = 0 ∨ k = 1 ∨ k = 2 ∨ k = 3 ∨ k = 4 ∨ k = 5 ∨ k = 6 := by omega
  rcases this with rfl | rfl | rfl | rfl | rfl | rfl | rfl <;> decide
local macro_rules | `(tactic| walk_at "binaryOp FloorDiv int int") => `(tactic| (k_here; (with_reducible show wpAny _ _ (binaryOp _ (Value.int _ _) (Value.int ((4 : Int) ^ _) _)) _ _ _); refine floordiv_int (pow4_ne _) ?_ (Or.inl (PyProof.noPylong_small (pow4_small (by omega))))))

local macro_rules | `(tactic| walk_at "SCS") => `(tactic| repeat' ((fail_if_success (with_reducible show LCg.CompSrc _ _ _ _ _ _ _ _ _ _ _ _ _ _)); walk_at "S"))

theorem piece_tells (w : World) (p : Program) (loose : List Str) (mean : ExcName → Option Value) (mg mb : Str → Option Value)
    (n : Int) (t : Tok) (z : Int) (u : Tok) (hz0 : 2 ≤ z) (hz1 : z ≤ 6) :
    Tells PySem.Challenge.rw_fp5022_01.row.prog w p loose mean mg mb 101 1 [.int n t, .int z u]
      (fun r tl => tl = [] ∧ ∃ x q, r = .str x q ∧ x.length ≤ 6) := by
  unfold Tells
  k_fill
  intro dp un gd cn cs a ccd cl outer A₀ base h₀ L m news s Q E B F X N T hk hd hu hret
  refine wpAny_call ?_
  walk_at "ENTERC"
  walk_at "SCS"
  k_dflt (refine LCg.CompSrc.range (by rfl) (by k_asm) (by k_asm) (by assumption) (small_one (by omega) (by omega) (by omega) (by omega)) (rangeSize_nat _ _) (by rw [PySem.sizeLine_eq]; omega) ?_)
  intro g9
  refine' kct_range (fun k => Txt.item (Str.ofString "ab c") ((n.fdiv (4 ^ k.toNat) + k * (n + 1)).fmod 4)) (fun k' t' I' oI' C' oC' D' m' ys' h' tk' E' hlo' hhi' hC' hx' F' N' off' ne' => ?_) ?_
  · show KPfMark → _
    intro hMark'
    k_steps
    refine LCg.CompEnd.intro (by assumption) (by assumption) _ (fun p hp => hp) off' ?_ ⟨rfl, _, rfl⟩
    trivial
  k_steps
  rename News h₀ _ _ _ => kN9
  rename (_ = (rangeKs _ _).length) => hlen
  rw [rangeKs_length] at hlen
  exact hret _ [] _ _ (by assumption) (fun p hp => kN9 p (.tail _ (.tail _ hp))) (fun _ _ _ h => nomatch h) ⟨rfl, _, _, rfl, by omega⟩

theorem spoil_tells (w : World) (p : Program) (loose : List Str) (mean : ExcName → Option Value) (mg mb : Str → Option Value)
    (x : Str) (t : Tok) (n : Int) (u : Tok) (hx : x.length ≤ 90) :
    Tells PySem.Challenge.rw_fp5022_01.row.prog w p loose mean mg mb 108 1 [.str x t, .int n u]
      (fun r tl => tl = [] ∧ ∃ y q, r = .str y q ∧ y.length ≤ x.length + 1) := by
  unfold Tells
  intro dp un gd cn cs a ccd cl outer A₀ base h₀ L m news s Q E B F X N T hk hd hu hret
  have hq0 : 0 ≤ (n.fdiv 16).fmod ((x.length : Int) + 1) := Int.fmod_nonneg_of_pos _ (by omega)
  have hq1 : (n.fdiv 16).fmod ((x.length : Int) + 1) < (x.length : Int) + 1 := Int.fmod_lt_of_pos _ (by omega)
  refine wpAny_call ?_
  have hu0 := upto_le x hq0
  have hf0 := from_le x hq0
  have hf1 := from_le x (q := (n.fdiv 16).fmod ((x.length : Int) + 1) + 1) (by omega)
  have hf2 := from_le x (q := (n.fdiv 16).fmod ((x.length : Int) + 1) + 2) (by omega)
  have hit : ∀ (y : Str) (i : Int), (Txt.item y i).length = 1 := fun _ _ => rfl
  k_dflt cell_enter
  k_steps
  all_goals (
    rename News h₀ _ _ _ => kN9
    refine hret _ [] _ _ (by assumption) (fun p hp => kN9 p (by first | exact hp | exact .tail _ hp | exact .tail _ (.tail _ hp))) (fun _ _ _ h => nomatch h) ⟨rfl, _, _, rfl, ?_⟩
    try simp only [PySem.Str.length_append, hit]
    omega)
end Mine

end

section
open PySem PySem.W PyProof.Rows PySem.Calls
set_option maxRecDepth 100000
set_option maxHeartbeats 4000000
namespace Mine
local macro_rules | `(tactic| walk_at "S") => `(tactic| first | (k_unfold; (try dsimp only)) | (k_end; wrow_close) | walk1 | (dsimp only; walk1) | (leave1; walk_say "STEP leave1"; try dsimp only) | fail "no step")
local macro_rules | `(tactic| walk_at "SF") => `(tactic| repeat' ((fail_if_success (with_reducible show wpAny _ _ (exec (Stmt.For _ _ _ _ _) _) _ _ _)); walk_at "S"))
local macro_rules | `(tactic| walk_at "SW") => `(tactic| repeat' ((fail_if_success (with_reducible show wpAny _ _ (exec (Stmt.While _ _ _ _) _) _ _ _)); walk_at "S"))
local macro_rules | `(tactic| walk_at "SA") => `(tactic| repeat' ((fail_if_success (with_reducible show wpAny _ _ (exec (Stmt.AugAssign _ _ _ _) _) _ _ _)); walk_at "S"))
local macro_rules | `(tactic| walk_at "SI") => `(tactic| repeat' ((fail_if_success (with_reducible show wpAny _ _ (exec (Stmt.If _ _ _ _) _) _ _ _)); walk_at "S"))
local macro_rules | `(tactic| walk_at "RPost") => `(tactic| dsimp only [RPost])
local macro_rules | `(tactic| walk_at "WPost") => `(tactic| dsimp only [WPost])
local macro_rules | `(tactic| walk_at "SP") => `(tactic| repeat' ((fail_if_success (with_reducible show wpAny _ _ (pyIter _) _ _ _)); walk_at "S"))
local macro_rules | `(tactic| walk_at "NAMES") => `(tactic| (repeat (first | exact List.forall_mem_nil _ | refine List.forall_mem_cons.mpr ⟨rfl, ?_⟩)))
local macro_rules | `(tactic| walk_at "NAMESI") => `(tactic| (repeat (first | exact List.forall_mem_nil _ | refine List.forall_mem_cons.mpr ⟨rfl, ?_⟩ | refine List.forall_mem_cons.mpr ⟨some_int (by omega), ?_⟩)))
local macro_rules | `(tactic| walk_at "ENTERC") => `(tactic| k_dflt (refine' code_defC ?k1 ?k2 ?k3 ?k4 ?k5 ?kA ?kF ?kK ?k6 ?k7 ?k8 ?k9 ?kB ?kD ?_ ?c2 ?c3 ?c4; (case kA => exact rfl); (case kF => exact rfl); (case kK => assumption); (case k1 => k_asm); (case k2 => k_asm); (case k3 => k_asm); (case k4 => k_asm); (case k5 => k_asm); (case k6 => k_is); (case k7 => k_is); (case k8 => ktr_room); (case k9 => exact BindsTo.of_eq rfl); (case kB => exact rfl); (case kD => decide +kernel); (case c2 => exact rfl); (case c3 => exact rfl); (case c4 => exact rfl); k_whole; intro g' L' h' tk' cells' FG' F' N' Y' B' X' T' l1; (try k_lt l1); k_cells Y'; (try simp only [List.cons_append, List.nil_append] at N'); (try dsimp only); (try k_lift B'); (try k_fold)))
local macro_rules | `(tactic| walk_at "FOR") => `(tactic| ((rename Fr _ _ _ _ => lF'); (with_unfolding_all refine' For_invVF lF' ?k1 ?k2 ?_; (case k1 => exact rfl); (case k2 => exact rfl); k_whole)))
local macro_rules | `(tactic| walk_at "TELLS") => `(tactic| ((case k1 => k_asm); (case k2 => k_asm); (case k3 => k_asm); (case k4 => k_asm); (case k5 => k_asm); (case kK => first | exact rfl | assumption); (case kd => ktr_room); (case ku => ktr_units)))
local macro_rules | `(tactic| walk_at "call builtin:min") => `(tactic| (k_here; (with_reducible show wpAny _ _ (call (Value.builtin "min") [Value.int _ _, Value.int _ _, Value.int _ _]) _ _ _); k_dflt (refine' min_three_N ?h1 ?h2 ?h3 ?_; (case h1 => exact rfl); (case h2 => k_asm); (case h3 => k_asm); k_whole); intro v' t' h' tk' hv' F' N'; (try k_sweep)))
local macro_rules | `(tactic| k_all) => `(tactic| assumption)
local macro_rules | `(tactic| walk_at "ENTER") => `(tactic| k_dflt (refine' code_def ?k1 ?k2 ?k3 ?k4 ?k5 ?kA ?kF ?kK ?k6 ?k7 ?k8 ?k9 ?kB ?_ ?c2 ?c3 ?c4 ?c5; (case kA => exact rfl); (case kF => exact rfl); (case kK => first | exact rfl | assumption); (case k1 => k_asm); (case k2 => k_asm); (case k3 => k_asm); (case k4 => k_asm); (case k5 => k_asm); (case k6 => k_is); (case k7 => k_is); (case k8 => ktr_room); (case k9 => exact BindsTo.of_eq rfl); (case c5 => decide); (case kB => exact locs rfl); (case c2 => exact rfl); (case c3 => exact rfl); (case c4 => exact rfl); k_whole; intro g' L' h' FG' F' N' B' X' T'; (try dsimp only); (try k_lift B'); (try k_fold)))
local macro_rules | `(tactic| walk_at "SAS") => `(tactic| repeat' ((fail_if_success (with_reducible show wpAny _ _ (exec (Stmt.Assign _ _ _) _) _ _ _)); walk_at "S"))

local macro_rules | `(tactic| walk_at "SX") => `(tactic| repeat' ((fail_if_success (with_reducible show wpAny _ _ (call (Value.ref 101) _) _ _ _)); (fail_if_success (with_reducible show wpAny _ _ (call (Value.ref 108) _) _ _ _)); (fail_if_success (with_reducible show wpAny _ _ (call (Value.ref 129) _) _ _ _)); (fail_if_success (with_reducible show wpAny _ _ (exec (Stmt.For _ _ _ _ _) _) _ _ _)); walk_at "S"))
local macro_rules | `(tactic| walk_at "call ref") => `(tactic| (k_here; (show wpAny _ _ (call (Value.ref 96) []) _ _ _); refine wpAny_call ?_; walk_at "ENTER"))

local macro_rules | `(tactic| walk_at "subscriptTail Name Slice ref ref") => `(tactic| (k_here; (with_reducible show wpAny _ _ (subscriptTail _ (PySem.Expr.Slice _ _ none _) (Value.ref _) (Value.ref _)) _ _ _); k_dflt (refine' kmk_slice_ints ?mF ?mN ?ml ?mp ?mq ?mi ?mm rfl ?_ ?ms ?mt ?mz; (case mF => k_asm); (case mN => k_asm); (case ml => kmk_list); (case mp => kmk_part); (case mq => kmk_part); (case mi => l_ints); (case mm => first | exact kmk_from (by l_ints) (by omega) | exact kmk_upto (by l_ints) (by omega) | exact kmk_run (by l_ints) (by omega) (by omega)); (case ms => with_unfolding_all rfl); (case mt => kmk_pure); (case mz => exact kmk_sz (by l_ints) (by rw [PySem.sizeLine_eq]; (try simp only [List.length_append, List.length_take, List.length_drop, List.length_cons, List.length_nil]); omega))); intro D' ws' h' F' N' l1 hI' hC' hL'; (try k_lt l1); (try k_sweep)))

/-- a tuple that _law_pair made -/
def PairAt (o : Obj) (x y : Str) : Prop :=
  ∃ X Y n1 n2 pl far t1 t2 t3 t4 t5 t6, o = tup [.str X t1, .str Y t2, .int n1 t3, .int n2 t4, .int pl t5, .int far t6] ∧ 0 ≤ pl ∧ pl ≤ 10 ∧ PairOk x y X Y n1 n2 pl far

theorem pairs_tells (w : World) (p : Program) (loose : List Str) (mean : ExcName → Option Value) (mg mb : Str → Option Value) (l : Addr) (lvs : List Value) (ns : List Int) (hI : IntsAre lvs ns) (hn : ns.length ≤ 63) :
    TellsL PySem.Challenge.rw_fp5022_01.row.prog w p loose mean mg mb 136 4 l lvs
      (fun r tl => ∃ lq q1 q2 q3 o1 o2 o3 x2 y2 x3 y3, r = .ref lq ∧ tl = [(lq, listOf #[.ref q1, .ref q2, .ref q3] 0), (q1, o1), (q2, o2), (q3, o3)] ∧ PairAt o1 (Str.ofString "abcab") (Str.ofString "bacba") ∧ PairAt o2 x2 y2 ∧ PairAt o3 x3 y3) := by
  unfold TellsL
  k_fill
  intro dp un gd cn cs a ccd cl outer A₀ base h₀ L m news s Q E hl B F X N T hk hd hu hret
  refine wpAny_call ?_
  k_dflt cell_enter
  rename_i g' L' h' FG' F' N' B' X' T'
  walk_at "SAS"
  refine cut_stmt (fun s' => ∃ h1 tk1 um D dvs dns k, (IntsAre dvs dns ∧ dns.length = 16) ∧ s' = { s with heap := h1, toks := tk1 } ∧ Fr g' L' h1 (bnd um [("draws", .ref D)]) ∧ News g' L' h1 ((D, listOf dvs.toArray k) :: news) ∧ (∀ p ∈ news, p.1 < D)) ?_ ?_
  · k_steps
    rename Fr g' _ _ _ => F1
    rename News g' _ _ _ => N1
    rename IntsAre _ _ => hI1
    rename (_ ∧ _ ∧ _ ∧ AllLt _ news) => hlt
    refine Cut.intro ?_
    have hlen : (List.take (Int.toNat 16) (ns ++ List.drop (ns.length : Int).toNat [5, 13, 30, 0, 77, 121, 3, 9, 44, 6, 2, 58, 3, 12, 33, 7])).length = 16 := by
      simp only [List.length_take, List.length_append, List.length_drop, List.length_cons, List.length_nil]
      omega
    exact ⟨_, _, _, _, _, _, _, ⟨hI1, hlen⟩, rfl, frame_as _ F1 (by walk_at "NAMES"), news_but3 N1, kst_ltOf hlt.2.2.2⟩
  clear F' N'
  rintro s1 ⟨h1, tk1, um, D, dvs, dns, dk, ⟨hD, hD16⟩, rfl, F1, N1, hDlt⟩
  dsimp only
  have h2 : ∀ x : Int, 2 ≤ 2 + x.fmod 5 ∧ 2 + x.fmod 5 ≤ 6 := fun x => by have := Int.fmod_nonneg_of_pos x (show (0 : Int) < 5 by decide); have := Int.fmod_lt_of_pos x (show (0 : Int) < 5 by decide); omega
  walk_at "SX"
  refine' tells_use (piece_tells w p loose mean mg mb _ _ _ _ (h2 _).1 (h2 _).2) ?k1 ?k2 ?k3 ?k4 ?k5 ?kK ?kd ?ku ?_
  walk_at "TELLS"
  rintro r tl h9 tk9 F9 N9 o9 ⟨rfl, xp, qp, rfl, hxp⟩
  simp only [List.nil_append] at N9
  dsimp only
  have hmul : (Txt.mul xp 12).length ≤ 72 := len_mul_leN (L := 6) (N := 12) hxp (by decide)
  walk_at "SX"
  rename ((Txt.slice _ _ _).length ≤ _) => hfirst
  walk_at "FOR"
  walk_at "SP"
  rename Fr g' _ _ _ => F2
  rename News g' _ _ _ => N2
  rename IntsAre _ _ => hI2
  rename (_ ≤ dns.length) => hle2
  refine my_list (σ := Str × Tok) (fun _ => (_, listOf (List.toArray _) 0) :: (D, listOf dvs.toArray dk) :: news) (fun c => [("draws", .ref D), ("first", .str (Txt.slice (Txt.mul xp 12) none (some (8 + (dns.getD (Int.toNat 0) 0).fmod 17))) _), ("text", .str c.1 c.2)])
    (fun i c => c.1.length ≤ 72 + i) ⟨_, _⟩ rfl (fun _ => .head _) hI2 F2 N2 (fun _ => rfl) (fun _ h => h) (by walk_at "NAMES") (by exact Nat.le_trans hfirst hmul) ?_ ?_
  · clear F2 N2
    rintro i k ⟨tx, tt⟩ tk3 u3 h3 tk3' own hik hoff hmap hc F2 N2
    dsimp only at hc F2 N2
    simp only [List.cons_append] at N2
    have hil := (List.getElem?_eq_some_iff.mp hik).1
    walk_at "SX"
    refine' tells_use (spoil_tells w p loose mean mg mb tx _ _ _ (by omega)) ?k1 ?k2 ?k3 ?k4 ?k5 ?kK ?kd ?ku ?_
    walk_at "TELLS"
    rintro r tl h9 tk9 F9 N9 o9 ⟨rfl, yt, qt, rfl, hyt⟩
    simp only [List.nil_append] at N9
    dsimp only
    k_steps
    rename Fr g' _ _ _ => FS
    rename News g' _ _ _ => NS
    exact REnd.intro ⟨yt, _⟩ FS NS (fun p hp => List.mem_append_left own hp) (fun p hp => List.mem_append_right (_ :: _ :: news) hp) rfl (by walk_at "NAMES") (by dsimp only; omega)
  clear F2 N2
  rintro ⟨tx, tt⟩ u3 h3 tk3 hc F2 N2
  dsimp only at hc F2 N2
  replace hc : tx.length ≤ 88 := by omega
  replace N2 : News g' L' h3 ((D, listOf dvs.toArray dk) :: news) := fun p hp => N2 p (.tail _ hp)
  clear hle2 hI2
  walk_at "SX"
  refine' tells_use (piece_tells w p loose mean mg mb _ _ _ _ (h2 _).1 (h2 _).2) ?k1 ?k2 ?k3 ?k4 ?k5 ?kK ?kd ?ku ?_
  walk_at "TELLS"
  rintro r tl h9 tk9 F9 N9 o9 ⟨rfl, xs, qs, rfl, hxs⟩
  simp only [List.nil_append] at N9
  dsimp only
  walk_at "SX"
  walk_at "FOR"
  walk_at "SP"
  rename Fr g' _ _ _ => F2
  rename News g' _ _ _ => N2
  rename IntsAre _ _ => hI2
  rename (_ ≤ dns.length) => hle2
  refine my_list (σ := Str × Tok) (fun _ => (_, listOf (List.toArray _) 0) :: (D, listOf dvs.toArray dk) :: news) (fun c => [("draws", .ref D), ("first", .str (Txt.slice (Txt.mul xp 12) none (some (8 + (dns.getD (Int.toNat 0) 0).fmod 17))) _), ("text", .str tx tt), ("short", .str xs _), ("other", .str c.1 c.2)])
    (fun i c => c.1.length ≤ 72 + i) ⟨_, _⟩ rfl (fun _ => .head _) hI2 F2 N2 (fun _ => rfl) (fun _ h => h) (by walk_at "NAMES") (by show xs.length ≤ 72 + 0; omega) ?_ ?_
  · clear F2 N2
    rintro i k ⟨tx', tt'⟩ tk3 u3 h3 tk3' own hik hoff hmap hc' F2 N2
    dsimp only at hc' F2 N2
    simp only [List.cons_append] at N2
    have hil := (List.getElem?_eq_some_iff.mp hik).1
    walk_at "SX"
    refine' tells_use (spoil_tells w p loose mean mg mb tx' _ _ _ (by omega)) ?k1 ?k2 ?k3 ?k4 ?k5 ?kK ?kd ?ku ?_
    walk_at "TELLS"
    rintro r tl h9 tk9 F9 N9 o9 ⟨rfl, yt, qt, rfl, hyt⟩
    simp only [List.nil_append] at N9
    dsimp only
    k_steps
    rename Fr g' _ _ _ => FS
    rename News g' _ _ _ => NS
    exact REnd.intro ⟨yt, _⟩ FS NS (fun p hp => List.mem_append_left own hp) (fun p hp => List.mem_append_right (_ :: _ :: news) hp) rfl (by walk_at "NAMES") (by dsimp only; omega)
  clear F2 N2
  rintro ⟨to, tt'⟩ u3 h3 tk3 hco F2 N2
  dsimp only at hco F2 N2
  replace hco : to.length ≤ 88 := by omega
  replace N2 : News g' L' h3 ((D, listOf dvs.toArray dk) :: news) := fun p hp => N2 p (.tail _ hp)
  clear hle2 hI2
  have hm3 : ∀ x : Int, 0 ≤ x.fmod 3 ∧ x.fmod 3 ≤ 10 := fun x => by have := Int.fmod_nonneg_of_pos x (show (0 : Int) < 3 by decide); have := Int.fmod_lt_of_pos x (show (0 : Int) < 3 by decide); omega
  have hm4 : ∀ x : Int, 0 ≤ x.fmod 4 ∧ x.fmod 4 ≤ 10 := fun x => by have := Int.fmod_nonneg_of_pos x (show (0 : Int) < 4 by decide); have := Int.fmod_lt_of_pos x (show (0 : Int) < 4 by decide); omega
  walk_at "SX"
  refine' tells_use (pair_tells w p loose mean mg mb _ _ _ _ _ _ ?z1 ?z2 (hm3 _).1 (hm3 _).2) ?k1 ?k2 ?k3 ?k4 ?k5 ?kK ?kd ?ku ?_
  case z1 => decide +kernel
  case z2 => decide +kernel
  walk_at "TELLS"
  rintro r tl h91 tk91 F91 N91 o91 ⟨q1, X1, Y1, n11, n12, far1, t11, t12, t13, t14, t15, t16, rfl, rfl, ok1⟩
  simp only [List.cons_append, List.nil_append] at N91
  dsimp only
  walk_at "SX"
  refine' tells_use (pair_tells w p loose mean mg mb _ _ _ _ _ _ ?z1 ?z2 (hm4 _).1 (hm4 _).2) ?k1 ?k2 ?k3 ?k4 ?k5 ?kK ?kd ?ku ?_
  case z1 => omega
  case z2 => omega
  walk_at "TELLS"
  rintro r tl h92 tk92 F92 N92 o92 ⟨q2, X2, Y2, n21, n22, far2, t21, t22, t23, t24, t25, t26, rfl, rfl, ok2⟩
  simp only [List.cons_append, List.nil_append] at N92
  dsimp only
  walk_at "SX"
  refine' tells_use (pair_tells w p loose mean mg mb _ _ _ _ _ _ ?z1 ?z2 (hm4 _).1 (hm4 _).2) ?k1 ?k2 ?k3 ?k4 ?k5 ?kK ?kd ?ku ?_
  case z1 => omega
  case z2 => omega
  walk_at "TELLS"
  rintro r tl h93 tk93 F93 N93 o93 ⟨q3, X3, Y3, n31, n32, far3, t31, t32, t33, t34, t35, t36, rfl, rfl, ok3⟩
  simp only [List.cons_append, List.nil_append] at N93
  dsimp only
  walk_at "SX"
  rename News h₀ _ _ _ => kN9
  rename (_ ∧ _ ∧ _ ∧ _ ∧ AllLt _ news) => hlt
  have pa1 : PairAt (tup [.str X1 t11, .str Y1 t12, .int n11 t13, .int n12 t14, .int _ t15, .int far1 t16]) (Str.ofString "abcab") (Str.ofString "bacba") := ⟨X1, Y1, n11, n12, _, far1, t11, t12, t13, t14, t15, t16, rfl, (hm3 _).1, (hm3 _).2, ok1⟩
  have pa2 : PairAt (tup [.str X2 t21, .str Y2 t22, .int n21 t23, .int n22 t24, .int _ t25, .int far2 t26]) _ _ := ⟨X2, Y2, n21, n22, _, far2, t21, t22, t23, t24, t25, t26, rfl, (hm4 _).1, (hm4 _).2, ok2⟩
  have pa3 : PairAt (tup [.str X3 t31, .str Y3 t32, .int n31 t33, .int n32 t34, .int _ t35, .int far3 t36]) _ _ := ⟨X3, Y3, n31, n32, _, far3, t31, t32, t33, t34, t35, t36, rfl, (hm4 _).1, (hm4 _).2, ok3⟩
  refine hret _ [_, (q1, _), (q2, _), (q3, _)] _ _ (by assumption) (fun p hp => kN9 p ?_) (fun q hq p hp => ?_) ⟨_, q1, q2, q3, _, _, _, _, _, _, _, rfl, rfl, pa1, pa2, pa3⟩
  · rcases List.mem_cons.mp hp with rfl | hp
    · exact .head _
    rcases List.mem_cons.mp hp with rfl | hp
    · exact .tail _ (.tail _ (.tail _ (.head _)))
    rcases List.mem_cons.mp hp with rfl | hp
    · exact .tail _ (.tail _ (.head _))
    rcases List.mem_cons.mp hp with rfl | hp
    · exact .tail _ (.head _)
    · exact .tail _ (.tail _ (.tail _ (.tail _ (.tail _ hp))))
  · rcases List.mem_cons.mp hp with rfl | hp
    · exact kst_ltOf hlt.2.2.2.2 q hq
    rcases List.mem_cons.mp hp with rfl | hp
    · exact o91 q (.tail _ hq) _ (.head _)
    rcases List.mem_cons.mp hp with rfl | hp
    · exact o92 q (.tail _ (.tail _ hq)) _ (.head _)
    rcases List.mem_cons.mp hp with rfl | hp
    · exact o93 q (.tail _ (.tail _ (.tail _ hq))) _ (.head _)
    · cases hp
end Mine

end

section
open PySem PySem.W PyProof.Rows PySem.Calls
set_option maxRecDepth 100000
set_option maxHeartbeats 4000000
namespace Mine
local macro_rules | `(tactic| walk_at "S") => `(tactic| first | (k_unfold; (try dsimp only)) | (k_end; wrow_close) | walk1 | (dsimp only; walk1) | (leave1; walk_say "STEP leave1"; try dsimp only) | fail "no step")
local macro_rules | `(tactic| walk_at "SF") => `(tactic| repeat' ((fail_if_success (with_reducible show wpAny _ _ (exec (Stmt.For _ _ _ _ _) _) _ _ _)); walk_at "S"))
local macro_rules | `(tactic| walk_at "SW") => `(tactic| repeat' ((fail_if_success (with_reducible show wpAny _ _ (exec (Stmt.While _ _ _ _) _) _ _ _)); walk_at "S"))
local macro_rules | `(tactic| walk_at "SA") => `(tactic| repeat' ((fail_if_success (with_reducible show wpAny _ _ (exec (Stmt.AugAssign _ _ _ _) _) _ _ _)); walk_at "S"))
local macro_rules | `(tactic| walk_at "SI") => `(tactic| repeat' ((fail_if_success (with_reducible show wpAny _ _ (exec (Stmt.If _ _ _ _) _) _ _ _)); walk_at "S"))
local macro_rules | `(tactic| walk_at "RPost") => `(tactic| dsimp only [RPost])
local macro_rules | `(tactic| walk_at "WPost") => `(tactic| dsimp only [WPost])
local macro_rules | `(tactic| walk_at "SP") => `(tactic| repeat' ((fail_if_success (with_reducible show wpAny _ _ (pyIter _) _ _ _)); walk_at "S"))
local macro_rules | `(tactic| walk_at "NAMES") => `(tactic| (repeat (first | exact List.forall_mem_nil _ | refine List.forall_mem_cons.mpr ⟨rfl, ?_⟩)))
local macro_rules | `(tactic| walk_at "NAMESI") => `(tactic| (repeat (first | exact List.forall_mem_nil _ | refine List.forall_mem_cons.mpr ⟨rfl, ?_⟩ | refine List.forall_mem_cons.mpr ⟨some_int (by omega), ?_⟩)))
local macro_rules | `(tactic| walk_at "ENTERC") => `(tactic| k_dflt (refine' code_defC ?k1 ?k2 ?k3 ?k4 ?k5 ?kA ?kF ?kK ?k6 ?k7 ?k8 ?k9 ?kB ?kD ?_ ?c2 ?c3 ?c4; (case kA => exact rfl); (case kF => exact rfl); (case kK => assumption); (case k1 => k_asm); (case k2 => k_asm); (case k3 => k_asm); (case k4 => k_asm); (case k5 => k_asm); (case k6 => k_is); (case k7 => k_is); (case k8 => ktr_room); (case k9 => exact BindsTo.of_eq rfl); (case kB => exact rfl); (case kD => decide +kernel); (case c2 => exact rfl); (case c3 => exact rfl); (case c4 => exact rfl); k_whole; intro g' L' h' tk' cells' FG' F' N' Y' B' X' T' l1; (try k_lt l1); k_cells Y'; (try simp only [List.cons_append, List.nil_append] at N'); (try dsimp only); (try k_lift B'); (try k_fold)))
local macro_rules | `(tactic| walk_at "FOR") => `(tactic| ((rename Fr _ _ _ _ => lF'); (with_unfolding_all refine' For_invVF lF' ?k1 ?k2 ?_; (case k1 => exact rfl); (case k2 => exact rfl); k_whole)))
local macro_rules | `(tactic| walk_at "TELLS") => `(tactic| ((case k1 => k_asm); (case k2 => k_asm); (case k3 => k_asm); (case k4 => k_asm); (case k5 => k_asm); (case kK => first | exact rfl | assumption); (case kd => ktr_room); (case ku => ktr_units)))
local macro_rules | `(tactic| walk_at "call builtin:min") => `(tactic| (k_here; (with_reducible show wpAny _ _ (call (Value.builtin "min") [Value.int _ _, Value.int _ _, Value.int _ _]) _ _ _); k_dflt (refine' min_three_N ?h1 ?h2 ?h3 ?_; (case h1 => exact rfl); (case h2 => k_asm); (case h3 => k_asm); k_whole); intro v' t' h' tk' hv' F' N'; (try k_sweep)))

local macro_rules | `(tactic| walk_at "storeName") => `(tactic| (k_here; k_dflt (refine' storeX_C ?stF ?stN ?stc ?stU ?std ?_ ?sta ?stb; (case sta => rfl); (case stb => rfl); (case stF => k_asm); (case stN => k_asm); (case stc => rfl); (case stU => k_updF); (case std => k_asm); k_whole); intro h' o' F' N' d'; (try dsimp only at N'); (try k_sweep)))

local macro_rules | `(tactic| walk_at "SLC") => `(tactic| repeat' ((fail_if_success (with_reducible show wpAny _ _ (eval (Expr.ListComp _ _ _ _) _) _ _ _)); walk_at "S"))
local macro_rules | `(tactic| walk_at "SCT") => `(tactic| repeat' ((fail_if_success (with_reducible show LCt.CompSrcT _ _ _ _ _ _ _ _ _ _ _ _ _ _ _)); walk_at "S"))
local macro_rules | `(tactic| k_all) => `(tactic| assumption)
theorem max_two_M {prog : Program} {w : World} {A : Around} {E : Value → Shared → Prop} {s : Shared} {h₀ : Heap} {L : Addr} {m : Str → Option Value} {news : List (Addr × Obj)} {a b : Int} {t u : Tok} {Q : Value → Shared → Prop} (hh : A.handled = none) (F : Fr h₀ L s.heap m) (N : News h₀ L s.heap news)
    (h : ∀ (v : Int) (tv : Tok) (h' : Heap) (tk : Nat), v = max a b → Fr h₀ L h' m → News h₀ L h' news → Q (.int v tv) { s with heap := h', toks := tk }) :
    wpAny (model prog w) A (call (.builtin "max") [.int a t, .int b u]) Q E s :=
  max_two_N hh F N fun h' tk F' N' => h _ _ h' tk (by split <;> omega) F' N'
local macro_rules | `(tactic| walk_at "call builtin:max") => `(tactic| (k_here; (with_reducible show wpAny _ _ (call (Value.builtin "max") [Value.int _ _, Value.int _ _]) _ _ _); k_dflt (refine max_two_M (by exact rfl) (by k_asm) (by k_asm) ?_); intro v' t' h' tk' hv' F' N'; (try k_sweep)))

local macro_rules | `(tactic| walk_at "SST") => `(tactic| repeat' ((fail_if_success (with_reducible show wpAny _ _ (call (Value.type _) _) _ _ _)); (fail_if_success (with_reducible show LCt.CompSrcT _ _ _ _ _ _ _ _ _ _ _ _ _ _ _)); (fail_if_success (with_reducible show wpAny _ _ (call (Value.builtin "sorted") _) _ _ _)); walk_at "S"))
/-- a contract that says nothing of where the new objects lie -/
def TellsU (prog : Program) (w : World) (p : Program) (loose : List Str) (mean : ExcName → Option Value) (mg mb : Str → Option Value) (f : Addr) (need : Nat) (vs : List Value)
    (Out : Value → List (Addr × Obj) → Prop) : Prop :=
  ∀ (dp un : Nat) (gd : Option (List Code)) (cn : Str) (cs : Scope) (a : Addr) (ccd : Value) (cl : List (Str × Addr)) (outer : List Env) (A₀ : Around) (base h₀ : Heap) (L : Addr) (m : Str → Option Value) (news : List (Addr × Obj)) (s : Shared)
    (Q E : Value → Shared → Prop),
    Below A₀ base outer h₀ → Fr h₀ L s.heap m → (hd.heap_39 w.params).In h₀ → News h₀ L s.heap news → Top p loose mean mg mb h₀ → cs.kind = .function → dp + need < recursionLimit → un + 8 * need < cLine →
    (∀ r tl h' tk', Fr h₀ L h' m → News h₀ L h' (tl ++ news) → Out r tl → Q r { s with heap := h', toks := tk' }) →
    wpAny (model prog w) (ktrTop dp un gd cn cs L a ccd cl outer) (call (.ref f) vs) Q E s
theorem tellsU_use {prog : Program} {w : World} {p : Program} {loose : List Str} {mean : ExcName → Option Value} {mg mb : Str → Option Value} {f : Addr} {need : Nat} {vs : List Value} {Out : Value → List (Addr × Obj) → Prop}
    {dp un : Nat} {gd : Option (List Code)} {cn : Str} {cs : Scope} {a : Addr} {ccd : Value} {cl : List (Str × Addr)} {outer : List Env} {A₀ : Around} {base h₀ : Heap} {L : Addr} {m : Str → Option Value} {news : List (Addr × Obj)} {s : Shared}
    {Q E : Value → Shared → Prop} (C : TellsU prog w p loose mean mg mb f need vs Out)
    (B : Below A₀ base outer h₀) (F : Fr h₀ L s.heap m) (X : (hd.heap_39 w.params).In h₀) (N : News h₀ L s.heap news) (T : Top p loose mean mg mb h₀) (hk : cs.kind = .function) (hdp : dp + need < recursionLimit) (hun : un + 8 * need < cLine)
    (ret : ∀ r tl h' tk', Fr h₀ L h' m → News h₀ L h' (tl ++ news) → Out r tl → Q r { s with heap := h', toks := tk' }) :
    wpAny (model prog w) (ktrTop dp un gd cn cs L a ccd cl outer) (call (.ref f) vs) Q E s := C dp un gd cn cs a ccd cl outer A₀ base h₀ L m news s Q E B F X N T hk hdp hun ret
/-- what _law_bounds gives -/
def BoundsOk (n1 n2 : Int) (r : Value) (tl : List (Addr × Obj)) : Prop :=
  ∃ l vs ns k, r = .ref l ∧ tl = [(l, listOf (List.toArray vs) k)] ∧ IntsAre vs ns ∧ ns.length ≤ 4 ∧ (∀ b ∈ ns, max 1 (n2 - n1) ≤ b ∧ b < n2) ∧ (max 1 (n2 - n1) < n2 → ns ≠ [])
theorem hl_all : ((List.range 103).all fun n => HL.contains (hashInt ((n : Int) - 1))) = true := by decide +kernel
theorem hl_of {k : Int} (h1 : -1 ≤ k) (h2 : k ≤ 101) : hashInt k ∈ HL := by
  have := List.all_eq_true.mp hl_all (k + 1).toNat (List.mem_range.mpr (by omega))
  have e : (((k + 1).toNat : Int) - 1) = k := by omega
  rw [e] at this
  exact List.contains_iff_mem.mp this

theorem filt_fold (p : Int → Prop) [∀ b, Decidable (p b)] (ms : List Int) : (ms.foldl (fun l b => if p b then l ++ [b] else l) []).length ≤ ms.length ∧ ∀ b, b ∈ ms.foldl (fun l b => if p b then l ++ [b] else l) [] ↔ b ∈ ms ∧ p b := by
  have key : ∀ (ms acc : List Int), (ms.foldl (fun l b => if p b then l ++ [b] else l) acc).length ≤ acc.length + ms.length ∧ ∀ b, b ∈ ms.foldl (fun l b => if p b then l ++ [b] else l) acc ↔ b ∈ acc ∨ (b ∈ ms ∧ p b) := by
    intro ms
    induction ms with
    | nil => intro acc; exact ⟨Nat.le_refl _, fun b => by simp⟩
    | cons a r ih =>
      intro acc
      rw [List.foldl_cons]
      by_cases h : p a
      · rw [if_pos h]
        refine ⟨by have := (ih (acc ++ [a])).1; rw [List.length_append, List.length_singleton] at this; rw [List.length_cons]; omega, fun b => ?_⟩
        rw [(ih (acc ++ [a])).2 b, List.mem_append, List.mem_singleton, List.mem_cons]
        constructor
        · rintro ((h1 | rfl) | h1)
          · exact .inl h1
          · exact .inr ⟨.inl rfl, h⟩
          · exact .inr ⟨.inr h1.1, h1.2⟩
        · rintro (h1 | ⟨rfl | h1, h2⟩)
          · exact .inl (.inl h1)
          · exact .inl (.inr rfl)
          · exact .inr ⟨h1, h2⟩
      · rw [if_neg h]
        refine ⟨by have := (ih acc).1; rw [List.length_cons]; omega, fun b => ?_⟩
        rw [(ih acc).2 b, List.mem_cons]
        constructor
        · rintro (h1 | h1)
          · exact .inl h1
          · exact .inr ⟨.inr h1.1, h1.2⟩
        · rintro (h1 | ⟨rfl | h1, h2⟩)
          · exact .inl h1
          · exact absurd h2 h
          · exact .inr ⟨h1, h2⟩
  have := key ms []
  exact ⟨by simpa using this.1, fun b => by rw [this.2 b]; simp⟩

theorem bounds_tells (w : World) (p : Program) (loose : List Str) (mean : ExcName → Option Value) (mg mb : Str → Option Value)
    (n1 : Int) (t : Tok) (n2 : Int) (u : Tok) (far : Int) (v : Tok) (h1 : 0 ≤ n1) (h2 : n1 ≤ n2) (h3 : n2 ≤ 100) (h4 : 0 ≤ far) (h5 : far ≤ 100) :
    TellsU PySem.Challenge.rw_fp5022_01.row.prog w p loose mean mg mb 141 4 [.int n1 t, .int n2 u, .int far v] (BoundsOk n1 n2) := by
  unfold TellsU
  k_fill
  intro dp un gd cn cs a ccd cl outer A₀ base h₀ L m news s Q E B F X N T hk hd hu hret
  refine wpAny_call ?_
  walk_at "ENTERC"
  rename_i g' L' h' tk' FG' F' B' X' T' l1 o1 o2 d1 d2 N'
  replace d1 : o1.data = .cell none := d1
  replace d2 : o2.data = .cell (some (.int n2 u)) := d2
  have hU : ∀ p ∈ (L' + 1, o2) :: news, p.1 ≠ L' + 1 + 1 := List.forall_mem_cons.mpr ⟨Nat.ne_of_lt (Nat.lt_succ_self _), fun p hp => Nat.ne_of_lt (Nat.lt_of_lt_of_le (l1 p hp) (by omega))⟩
  walk_at "SLC"
  k_dflt (refine LCt.ListComp_T (F₀ := by k_asm) (by with_unfolding_all rfl) (by decide) (by rfl) (by decide) (by rfl) ?_)
  walk_at "SST"
  rename Fr g' _ _ _ => F1
  rename News g' _ _ (_ :: _) => N1
  rename (_ = max 1 (n2 - n1)) => hle
  refine set_N (ns := [_, far - 1, far, far + 1]) (by rfl) F1 N1 (.head _) (.cons _ _ (.cons _ _ (.cons _ _ (.cons _ _ .nil)))) (fun k hk => ?_) (Nat.le_refl 4) ?_
  · simp only [List.mem_cons, List.not_mem_nil, or_false] at hk
    exact hl_of (by omega) (by omega)
  clear F1 N1
  intro S h2 tk2 o F1 N1 lS hO
  dsimp only
  walk_at "SST"
  refine sortedSet_N (by rfl) F1 N1 (.head _) hO ?_
  clear F1
  intro D h3 tk3 vs ms k F1 N3 lD hI hms hm4
  dsimp only
  walk_at "SST"
  clear hO lD lS N1
  have hvs := hI.length
  k_dflt (refine LCt.CompSrcT.ledger (by rfl) F1 N3 (.head _) (by rw [PySem.sizeLine_eq, List.size_toArray]; omega) ?_)
  intro g9
  refine' kci_list (fun l b => if max 1 (n2 - n1) ≤ b ∧ b < n2 then l ++ [b] else l) hI (fun b t9 I9 oI9 C9 oC9 D9 m9 ys9 l9 h9 tk9 E9 hb9 hI9 hC9 hx9 F9 N9 off9 ne9 => ?_) ?_ ?_
  · show KPfMark → _
    intro hMark'
    k_steps
    · rename Fr g' _ _ _ => F2
      rename News g' _ _ _ => N2
      refine LCg.CompEnd.intro F2 N2 _ (fun p hp => hp) off9 (.inr ⟨_, .head _, rfl, _, rfl⟩) (kci_el (if_pos ⟨by omega, by omega⟩) rfl rfl)
    all_goals (
      rename Fr g' _ _ _ => F2
      rename News g' _ _ _ => N2
      refine LCg.CompEnd.intro F2 N2 _ (fun p hp => hp) off9 (.inr ⟨_, .head _, rfl, _, rfl⟩) (kci_no (if_neg (by omega)) rfl))
  · k_steps
    rename News h₀ _ _ (_ :: _) => kN9
    rename (IntsAre _ (List.foldl _ _ _)) => hI8
    have hf := filt_fold (fun b => max 1 (n2 - n1) ≤ b ∧ b < n2) ms
    refine hret _ [(_, listOf ys.toArray ys.length)] _ _ (by assumption) (fun p hp => kN9 p ?_) ⟨_, ys, _, ys.length, rfl, rfl, hI8, ?_, fun b hb => ((hf.2 b).mp hb).2, fun hlt => ?_⟩
    · rcases List.mem_cons.mp hp with rfl | hp
      · exact .head _
      · exact .tail _ (.tail _ (.tail _ (.tail _ (.tail _ (.tail _ hp)))))
    · have := hf.1; omega
    · have := (hf.2 (max 1 (n2 - n1))).mpr ⟨(hms _).mpr (by rw [hle]; exact .head _), Int.le_refl _, hlt⟩
      exact List.ne_nil_of_mem this
  · intro l b
    dsimp only
    split
    · rw [List.length_append]; exact Nat.le_refl _
    · exact Nat.le_succ _
end Mine

end

section
open PySem PySem.W PyProof.Rows PySem.Calls
set_option maxRecDepth 100000
set_option maxHeartbeats 4000000
namespace Mine
local macro_rules | `(tactic| walk_at "S") => `(tactic| first | (k_unfold; (try dsimp only)) | (k_end; wrow_close) | walk1 | (dsimp only; walk1) | (leave1; walk_say "STEP leave1"; try dsimp only) | fail "no step")
local macro_rules | `(tactic| walk_at "SF") => `(tactic| repeat' ((fail_if_success (with_reducible show wpAny _ _ (exec (Stmt.For _ _ _ _ _) _) _ _ _)); walk_at "S"))
local macro_rules | `(tactic| walk_at "SW") => `(tactic| repeat' ((fail_if_success (with_reducible show wpAny _ _ (exec (Stmt.While _ _ _ _) _) _ _ _)); walk_at "S"))
local macro_rules | `(tactic| walk_at "SA") => `(tactic| repeat' ((fail_if_success (with_reducible show wpAny _ _ (exec (Stmt.AugAssign _ _ _ _) _) _ _ _)); walk_at "S"))
local macro_rules | `(tactic| walk_at "SI") => `(tactic| repeat' ((fail_if_success (with_reducible show wpAny _ _ (exec (Stmt.If _ _ _ _) _) _ _ _)); walk_at "S"))
local macro_rules | `(tactic| walk_at "RPost") => `(tactic| dsimp only [RPost])
local macro_rules | `(tactic| walk_at "WPost") => `(tactic| dsimp only [WPost])
local macro_rules | `(tactic| walk_at "SP") => `(tactic| repeat' ((fail_if_success (with_reducible show wpAny _ _ (pyIter _) _ _ _)); walk_at "S"))
local macro_rules | `(tactic| walk_at "NAMES") => `(tactic| (repeat (first | exact List.forall_mem_nil _ | refine List.forall_mem_cons.mpr ⟨rfl, ?_⟩)))
local macro_rules | `(tactic| walk_at "NAMESI") => `(tactic| (repeat (first | exact List.forall_mem_nil _ | refine List.forall_mem_cons.mpr ⟨rfl, ?_⟩ | refine List.forall_mem_cons.mpr ⟨some_int (by omega), ?_⟩)))
local macro_rules | `(tactic| walk_at "ENTERC") => `(tactic| k_dflt (refine' code_defC ?k1 ?k2 ?k3 ?k4 ?k5 ?kA ?kF ?kK ?k6 ?k7 ?k8 ?k9 ?kB ?kD ?_ ?c2 ?c3 ?c4; (case kA => exact rfl); (case kF => exact rfl); (case kK => assumption); (case k1 => k_asm); (case k2 => k_asm); (case k3 => k_asm); (case k4 => k_asm); (case k5 => k_asm); (case k6 => k_is); (case k7 => k_is); (case k8 => ktr_room); (case k9 => exact BindsTo.of_eq rfl); (case kB => exact rfl); (case kD => decide +kernel); (case c2 => exact rfl); (case c3 => exact rfl); (case c4 => exact rfl); k_whole; intro g' L' h' tk' cells' FG' F' N' Y' B' X' T' l1; (try k_lt l1); k_cells Y'; (try simp only [List.cons_append, List.nil_append] at N'); (try dsimp only); (try k_lift B'); (try k_fold)))
local macro_rules | `(tactic| walk_at "FOR") => `(tactic| ((rename Fr _ _ _ _ => lF'); (with_unfolding_all refine' For_invVF lF' ?k1 ?k2 ?_; (case k1 => exact rfl); (case k2 => exact rfl); k_whole)))
local macro_rules | `(tactic| walk_at "TELLS") => `(tactic| ((case k1 => k_asm); (case k2 => k_asm); (case k3 => k_asm); (case k4 => k_asm); (case k5 => k_asm); (case kK => first | exact rfl | assumption); (case kd => ktr_room); (case ku => ktr_units)))
local macro_rules | `(tactic| walk_at "call builtin:min") => `(tactic| (k_here; (with_reducible show wpAny _ _ (call (Value.builtin "min") [Value.int _ _, Value.int _ _, Value.int _ _]) _ _ _); k_dflt (refine' min_three_N ?h1 ?h2 ?h3 ?_; (case h1 => exact rfl); (case h2 => k_asm); (case h3 => k_asm); k_whole); intro v' t' h' tk' hv' F' N'; (try k_sweep)))
local macro_rules | `(tactic| k_all) => `(tactic| assumption)
local macro_rules | `(tactic| walk_at "ENTER") => `(tactic| k_dflt (refine' code_def ?k1 ?k2 ?k3 ?k4 ?k5 ?kA ?kF ?kK ?k6 ?k7 ?k8 ?k9 ?kB ?_ ?c2 ?c3 ?c4 ?c5; (case kA => exact rfl); (case kF => exact rfl); (case kK => first | exact rfl | assumption); (case k1 => k_asm); (case k2 => k_asm); (case k3 => k_asm); (case k4 => k_asm); (case k5 => k_asm); (case k6 => k_is); (case k7 => k_is); (case k8 => ktr_room); (case k9 => exact BindsTo.of_eq rfl); (case c5 => decide); (case kB => exact locs rfl); (case c2 => exact rfl); (case c3 => exact rfl); (case c4 => exact rfl); k_whole; intro g' L' h' FG' F' N' B' X' T'; (try dsimp only); (try k_lift B'); (try k_fold)))
local macro_rules | `(tactic| walk_at "SAS") => `(tactic| repeat' ((fail_if_success (with_reducible show wpAny _ _ (exec (Stmt.Assign _ _ _) _) _ _ _)); walk_at "S"))
local macro_rules | `(tactic| walk_at "SX") => `(tactic| repeat' ((fail_if_success (with_reducible show wpAny _ _ (call (Value.ref 101) _) _ _ _)); (fail_if_success (with_reducible show wpAny _ _ (call (Value.ref 108) _) _ _ _)); (fail_if_success (with_reducible show wpAny _ _ (call (Value.ref 129) _) _ _ _)); (fail_if_success (with_reducible show wpAny _ _ (exec (Stmt.For _ _ _ _ _) _) _ _ _)); walk_at "S"))
local macro_rules | `(tactic| walk_at "call ref") => `(tactic| (k_here; (show wpAny _ _ (call (Value.ref 96) []) _ _ _); refine wpAny_call ?_; walk_at "ENTER"))
local macro_rules | `(tactic| walk_at "subscriptTail Name Slice ref ref") => `(tactic| (k_here; (with_reducible show wpAny _ _ (subscriptTail _ (PySem.Expr.Slice _ _ none _) (Value.ref _) (Value.ref _)) _ _ _); k_dflt (refine' kmk_slice_ints ?mF ?mN ?ml ?mp ?mq ?mi ?mm rfl ?_ ?ms ?mt ?mz; (case mF => k_asm); (case mN => k_asm); (case ml => kmk_list); (case mp => kmk_part); (case mq => kmk_part); (case mi => l_ints); (case mm => first | exact kmk_from (by l_ints) (by omega) | exact kmk_upto (by l_ints) (by omega) | exact kmk_run (by l_ints) (by omega) (by omega)); (case ms => with_unfolding_all rfl); (case mt => kmk_pure); (case mz => exact kmk_sz (by l_ints) (by rw [PySem.sizeLine_eq]; (try simp only [List.length_append, List.length_take, List.length_drop, List.length_cons, List.length_nil]); omega))); intro D' ws' h' F' N' l1 hI' hC' hL'; (try k_lt l1); (try k_sweep)))

section
variable {prog : Program} {w : World} {A : Around} {E : Value → Shared → Prop} {Q : Flow → Shared → Prop} {s : Shared} {env : Env} {h₀ : Heap} {target : Expr} {body : List Stmt}
/-- a for over a list of anything that the call has made -/
theorem my_each {σ : Type} {l : Addr} {vs : List Value} {nn : Nat} {m₀ : Str → Option Value} {news₀ : List (Addr × Obj)} (Led : σ → List (Addr × Obj)) (ps : σ → List (Str × Value)) (P : Nat → σ → Prop) (c₀ : σ)
    (hh : A.handled = none) (hl : ∀ c, (l, listOf vs.toArray nn) ∈ Led c) (F : Fr h₀ env.locals s.heap m₀) (N : News h₀ env.locals s.heap news₀)
    (hsub : ∀ p ∈ Led c₀, p ∈ news₀) (hk : ∀ p ∈ ps c₀, m₀ p.1 = some p.2) (hp : P 0 c₀)
    (turn : ∀ (i : Nat) (v : Value) (c : σ) (u : Str → Option Value) h tk own, vs[i]? = some v → OwnOff own ((Led c₀).map (·.1)) → (Led c).map (·.1) = (Led c₀).map (·.1) → P i c →
      Fr h₀ env.locals h (bnd u (ps c)) → News h₀ env.locals h (Led c ++ own) →
      wpAny (model prog w) A (assign target env v) (fun _ s₃ => wpAny (model prog w) A (execs body env) (RPost h₀ env.locals { s with heap := h, toks := tk } own Led ((Led c₀).map (·.1)) ps (P (i + 1)) Q) E s₃) E { s with heap := h, toks := tk })
    (done : ∀ (c : σ) (u : Str → Option Value) h tk, P vs.length c → Fr h₀ env.locals h (bnd u (ps c)) → News h₀ env.locals h (Led c) → Q .next { s with heap := h, toks := tk }) :
    wpAny (model prog w) A (pyIter (.ref l)) (fun it s₂ => TurnsAt prog w A h₀ env target body Q E it s₂) E s := by
  have N0 : News h₀ env.locals s.heap (Led c₀) := fun p hp => N p (hsub p hp)
  have hol : s.heap.get? l = some (listOf vs.toArray nn) := (N0 _ (hl c₀)).1
  have hls : s.heap.IsList l vs.toArray := ⟨_, hol, rfl, nn, rfl⟩
  have hne : l ≠ s.heap.objs.size := Nat.ne_of_lt (Heap.lt_size hol)
  refine wpAny_pyIter_list hls ?_
  have W := Walks.list (prog := prog) (w := w) hh s.heap.objs.size l hne vs.toArray
  have hlen : vs.toArray.size = vs.length := by simp
  rw [hlen] at W
  refine ⟨_, _, _, vs.length, _, _, _, m₀, Led c₀, (fun i m nx => nx.map (·.1) = (Led c₀).map (·.1) ∧ ∃ c, nx = Led c ∧ (∀ p ∈ ps c, m p.1 = some p.2) ∧ P i c), rfl, KTurns.ofWalks W (fun i v s Q E st q => letGo_listiter st.1 q), ?_, ?_, ?_, ⟨⟨_, Heap.get?_push_size _ rfl, rfl, rfl⟩, hls.at fun o e => Heap.get?_push_of_some _ e⟩, F.push _, (fun p hp => ⟨Heap.get?_push_of_some _ (N0 p hp).1, (N0 p hp).2⟩), ⟨rfl, c₀, rfl, hk, hp⟩, ?_, ?_⟩
  · intro hm
    rcases List.mem_cons.mp hm with e | hm
    · exact absurd F.ns.lt (e ▸ Nat.lt_irrefl _)
    · exact (N0 _ (hl c₀)).2.1 ((List.mem_singleton.mp hm).symm)
  · intro b hb
    rw [List.mem_singleton.mp hb]
    exact next_is_new F
  · intro p hp hI
    exact absurd (Heap.lt_size (N0 p hp).1) ((List.mem_singleton.mp hI) ▸ Nat.lt_irrefl _)
  · rintro i v m₁ news₁ hh' tk' own hin hP ⟨hadr, c, rfl, h1, hp'⟩ hoff hown hget hfp _ F₁ N₁
    have hsep : OwnOff (own.filter fun p => decide (p.1 = s.heap.objs.size)) ((Led c₀).map (·.1)) := by
      intro p hp b hb e
      obtain ⟨q, hq, rfl⟩ := List.mem_map.mp hb
      have h1 : p.1 = s.heap.objs.size := by simpa using (List.mem_filter.mp hp).2
      exact absurd (Heap.lt_size (N0 q hq).1) (by rw [← e, h1]; exact Nat.lt_irrefl _)
    have hP' : vs[i]? = some v := by simpa using hP
    have N₂ : News h₀ env.locals hh' (Led c ++ own.filter fun p => decide (p.1 = s.heap.objs.size)) := fun p hp => N₁ p ((List.mem_append.mp hp).elim (fun h => List.mem_append.mpr (.inr h)) fun h => List.mem_append.mpr (.inl ((List.mem_filter.mp h).1)))
    have hlo : hh'.get? l = some (listOf vs.toArray nn) := (N₁ _ (List.mem_append.mpr (.inr (hl c)))).1
    refine wpAny_mono (turn i v c m₁ hh' tk' _ hP' hsep hadr hp' (frame_as _ F₁ h1) N₂) (fun _ s₂ p => wpAny_mono p (fun f s₂ p => ?_) fun _ _ e => e) fun _ _ e => e
    have fin : REnd h₀ env.locals { s with heap := hh', toks := tk' } (own.filter fun p => decide (p.1 = s.heap.objs.size)) Led ((Led c₀).map (·.1)) ps (P (i + 1)) s₂ →
        LoopStepU h₀ env.locals [s.heap.objs.size] own (fun m nx => nx.map (·.1) = (Led c₀).map (·.1) ∧ ∃ c, nx = Led c ∧ (∀ p ∈ ps c, m p.1 = some p.2) ∧ P (i + 1) c) { s with heap := hh', toks := tk' } .next s₂ := by
      rintro ⟨c', h', tk, m', news', e, F', N', hn, ho, ha, hk', hq'⟩
      refine ⟨rfl, h', tk, m', Led c', e, F', fun p hp => ?_, fun p hp => ?_, ha, c', rfl, hk', hq'⟩
      · rcases List.mem_append.mp hp with h | h
        · by_cases hI : p.1 = s.heap.objs.size
          · exact N' p (ho p (List.mem_filter.mpr ⟨h, by simpa using hI⟩))
          · have h1 : p.1 = l := by
              rcases List.mem_cons.mp (hown p h) with h2 | h2
              · exact absurd h2 hI
              · exact List.mem_singleton.mp h2
            have h2 : hh'.get? p.1 = some p.2 := hget p h
            rw [h1, hlo] at h2
            have h3 : p = (l, listOf vs.toArray nn) := Prod.ext h1 (Option.some.inj h2).symm
            rw [h3]
            exact N' _ (hn _ (hl c'))
        · exact N' p (hn p h)
      · have h1 : p.1 ∈ (Led c').map (·.1) := List.mem_map.mpr ⟨p, hp, rfl⟩
        rw [ha] at h1
        obtain ⟨q, hq, e⟩ := List.mem_map.mp h1
        intro hI
        exact absurd (Heap.lt_size (N0 q hq).1) (by rw [e, List.mem_singleton.mp hI]; exact Nat.lt_irrefl _)
    cases f with
    | ret v => exact .ret p
    | brk => exact .brk p
    | next => exact .next (fin p)
    | cont => exact .cont (fin p)
  · rintro h' tk m' news' F' N' _ ⟨_, c, rfl, h1, hJ⟩
    exact done c m' h' tk hJ (frame_as _ F' h1) N'
end

local macro_rules | `(tactic| walk_at "SX") => `(tactic| repeat' ((fail_if_success (with_reducible show wpAny _ _ (call (Value.ref 141) _) _ _ _)); (fail_if_success (with_reducible show wpAny _ _ (call (Value.ref 136) _) _ _ _)); (fail_if_success (with_reducible show wpAny _ _ (call (Value.ref 81) _) _ _ _)); (fail_if_success (with_reducible show wpAny _ _ (exec (Stmt.For _ _ _ _ _) _) _ _ _)); walk_at "S"))

theorem tellsL_use {prog : Program} {w : World} {p : Program} {loose : List Str} {mean : ExcName → Option Value} {mg mb : Str → Option Value} {f : Addr} {need : Nat} {l : Addr} {lvs : List Value} {Out : Value → List (Addr × Obj) → Prop}
    {dp un : Nat} {gd : Option (List Code)} {cn : Str} {cs : Scope} {a : Addr} {ccd : Value} {cl : List (Str × Addr)} {outer : List Env} {A₀ : Around} {base h₀ : Heap} {L : Addr} {m : Str → Option Value} {news : List (Addr × Obj)} {s : Shared}
    {Q E : Value → Shared → Prop} (C : TellsL prog w p loose mean mg mb f need l lvs Out)
    (hl : base.IsList l lvs.toArray) (B : Below A₀ base outer h₀) (F : Fr h₀ L s.heap m) (X : (hd.heap_39 w.params).In h₀) (N : News h₀ L s.heap news) (T : Top p loose mean mg mb h₀) (hk : cs.kind = .function) (hdp : dp + need < recursionLimit) (hun : un + 8 * need < cLine)
    (ret : ∀ r tl h' tk', Fr h₀ L h' m → News h₀ L h' (tl ++ news) → (∀ q ∈ news, ∀ p ∈ tl, q.1 < p.1) → Out r tl → Q r { s with heap := h', toks := tk' }) :
    wpAny (model prog w) (ktrTop dp un gd cn cs L a ccd cl outer) (call (.ref f) [.ref l]) Q E s := C dp un gd cn cs a ccd cl outer A₀ base h₀ L m news s Q E hl B F X N T hk hdp hun ret

theorem law_of (hb : True) : PySem.Challenge.rw_fp5022_01.Holds := hd (by
  k_go0
  (all_goals try k_fold)
  rename World => w
  rename Shared => s
  rename Top _ _ _ _ _ _ => T
  rename Below _ _ _ _ => B
  rename (Frag.In _ _) => KX
  rename Heap.IsList _ _ _ => hL
  rename IntsAre _ _ => hI
  rename List Int => ns
  rename List Value => lvs
  rename Addr => sl
  have hns : ns.length ≤ 63 := by omega
  walk_at "SAS"
  refine cut_stmt (fun s' => ∃ h1 tk1 um D dvs dns k, (IntsAre dvs dns ∧ dns.length = 16) ∧ s' = { s with heap := h1, toks := tk1 } ∧ Fr s.heap s.heap.objs.size h1 (bnd um [("draws", .ref D), ("script", .ref sl)]) ∧ News s.heap s.heap.objs.size h1 [(D, listOf (List.toArray dvs) k)]) ?_ ?_
  · k_steps
    rename Fr _ _ _ (fun y => _) => F1
    rename News _ _ _ (_ :: _) => N1
    rename IntsAre _ _ => hI1
    refine Cut.intro ?_
    have hlen : (List.take (Int.toNat 16) (ns ++ List.drop (ns.length : Int).toNat [5, 13, 30, 0, 77, 121, 3, 9, 44, 6, 2, 58, 3, 12, 33, 7])).length = 16 := by
      simp only [List.length_take, List.length_append, List.length_drop, List.length_cons, List.length_nil]
      omega
    exact ⟨_, _, _, _, _, _, _, ⟨hI1, hlen⟩, rfl, frame_as _ F1 (by walk_at "NAMES"), news_but3 N1⟩
  rename Fr _ _ _ _ => F0
  rename News _ _ _ _ => N0
  clear F0 N0
  rintro s1 ⟨h1, tk1, um, D, dvs, dns, dk, ⟨hD, hD16⟩, rfl, F1, N1⟩
  dsimp only
  walk_at "SX"
  (rename Fr _ _ _ _ => lF'); (with_unfolding_all refine' For_turns lF' ?_; k_whole)
  walk_at "SX"
  refine' tellsL_use (pairs_tells w _ _ _ _ _ sl lvs ns hI hns) ?kl ?k1 ?k2 ?k3 ?k4 ?k5 ?kK ?kd ?ku ?_
  case kl => exact hL
  walk_at "TELLS"
  rintro r tl h9 tk9 F9 N9 o9 ⟨lq, q1, q2, q3, o1, o2, o3, x2, y2, x3, y3, rfl, rfl, pa1, pa2, pa3⟩
  simp only [List.cons_append, List.nil_append] at N9
  dsimp only
  refine my_each (σ := Int × Tok) (l := lq) (vs := [.ref q1, .ref q2, .ref q3]) (nn := 0) (fun _ => [(lq, listOf #[.ref q1, .ref q2, .ref q3] 0), (q1, o1), (q2, o2), (q3, o3), (D, listOf dvs.toArray dk)]) (fun c => [("asked", .int c.1 c.2), ("draws", .ref D), ("script", .ref sl)])
    (fun i c => 0 ≤ c.1 ∧ (1 ≤ i → 1 ≤ c.1)) ⟨_, _⟩ rfl (fun _ => .head _) F9 N9 (fun _ h => h) (by walk_at "NAMES") ⟨Int.le_refl _, fun h => absurd h (by decide)⟩ ?_ ?_
  · clear F9 N9
    rintro i v ⟨cn, ct⟩ u3 h3 tk3 own hv hoff hmap ⟨hc0, hc1⟩ F2 N2
    dsimp only at hc0 hc1 F2 N2
    have hex : ∃ q o x y, v = .ref q ∧ (q, o) ∈ [(lq, listOf #[.ref q1, .ref q2, .ref q3] 0), (q1, o1), (q2, o2), (q3, o3), (D, listOf dvs.toArray dk)] ∧ PairAt o x y ∧ (i = 0 → x = Str.ofString "abcab" ∧ y = Str.ofString "bacba") := by
      rcases i with _ | _ | _ | i
      · exact ⟨q1, o1, _, _, (Option.some.inj hv).symm, .tail _ (.head _), pa1, fun _ => ⟨rfl, rfl⟩⟩
      · exact ⟨q2, o2, _, _, (Option.some.inj hv).symm, .tail _ (.tail _ (.head _)), pa2, fun h => by cases h⟩
      · exact ⟨q3, o3, _, _, (Option.some.inj hv).symm, .tail _ (.tail _ (.tail _ (.head _))), pa3, fun h => by cases h⟩
      · cases hv
    obtain ⟨q, o, x, y, rfl, hmem, ⟨X, Y, n1, n2, pl, far, t1, t2, t3, t4, t5, t6, rfl, hp0, hp10, ok⟩, h00⟩ := hex
    have N3 : News s.heap s.heap.objs.size h3 ((q, _) :: _) := List.forall_mem_cons.mpr ⟨N2 _ (List.mem_append_left _ hmem), N2⟩
    obtain ⟨k1, k2, k3, k4, k5, k6, k7, k8, k9, k10⟩ := ok
    have h55 : i = 0 → n1 = 5 ∧ n2 = 5 := fun h => by
      obtain ⟨rfl, rfl⟩ := h00 h
      have e1 : (Str.ofString "abcab").length = 5 := by decide +kernel
      have e2 : (Str.ofString "bacba").length = 5 := by decide +kernel
      have := k10 (by omega) (by omega) (by decide +kernel)
      omega
    have hfar : 0 ≤ far ∧ far ≤ 100 := by
      have := dd_high (f := sg X pl) (g := sg Y pl) n1.toNat n2.toNat
      omega
    walk_at "SX"
    · rename Fr _ _ _ _ => F3
      rename News _ _ _ _ => N4
      exact REnd.intro ⟨cn, _⟩ F3 N4 (fun p hp => List.mem_append_left own hp) (fun p hp => List.mem_append_right _ hp) rfl (by walk_at "NAMES") ⟨hc0, fun _ => by dsimp only; omega⟩
    walk_at "FOR"
    walk_at "SX"
    refine' tellsU_use (bounds_tells w _ _ _ _ _ n1 t3 n2 t4 far t6 k1 k2 k3 hfar.1 hfar.2) ?k1 ?k2 ?k3 ?k4 ?k5 ?kK ?kd ?ku ?_
    walk_at "TELLS"
    rintro r tl h9 tk9 F9 N9 ⟨lb, bvs, bns, bk, rfl, rfl, hbi, hb4, hbb, hbn⟩
    simp only [List.cons_append, List.nil_append] at N9
    dsimp only
    refine my_list (σ := Int × Tok) (fun _ => (lb, listOf bvs.toArray bk) :: _) (fun c => [("asked", .int c.1 c.2), ("draws", .ref D), ("script", .ref sl), ("string_a", .str X t1), ("string_b", .str Y t2), ("size_a", .int n1 t3), ("size_b", .int n2 t4), ("place", .int pl t5), ("far", .int far t6)])
      (fun i c => cn + i ≤ c.1) ⟨_, _⟩ rfl (fun _ => .head _) hbi F9 N9 (fun _ => rfl) (fun _ h => h) (by walk_at "NAMES") (by show cn + (0 : Nat) ≤ cn; omega) ?_ ?_
    · clear F9 N9
      rintro j b ⟨cn', ct'⟩ tb u4 h4 tk4 own' hjb hoff' hmap' hc' F4 N4
      dsimp only at hc' F4 N4
      have hbm := hbb b (List.mem_of_getElem? hjb)
      simp only [List.cons_append] at N4
      walk_at "SX"
      · refine' tells_use (dist_tells w _ _ _ _ _ X t1 Y t2 n1 t3 n2 t4 pl t5 b _ _ hp0 k4 k5 k6 k7 (by omega) k2 (by omega) (by omega) (by omega) (k8 (by omega))) ?k1 ?k2 ?k3 ?k4 ?k5 ?kK ?kd ?ku ?_
        walk_at "TELLS"
        rintro r tl h9 tk9 F9 N9 o9 ⟨rfl, qq, rfl⟩
        simp only [List.nil_append] at N9
        rw [← k9, if_pos (by omega)]
        dsimp only
        k_steps
        rename Fr _ _ _ _ => F5
        rename News _ _ _ _ => N5
        exact REnd.intro ⟨cn' + 1, _⟩ F5 N5 (fun p hp => .tail _ (.tail _ (List.mem_append_left own' hp))) (fun p hp => .tail _ (.tail _ (List.mem_append_right (_ :: _ :: _ :: _ :: _ :: _ :: own) hp))) rfl (by walk_at "NAMES") (by dsimp only; omega)
      · refine' tells_use (dist_tells w _ _ _ _ _ X t1 Y t2 n1 t3 n2 t4 pl t5 b _ _ hp0 k4 k5 k6 k7 (by omega) k2 (by omega) (by omega) (by omega) (k8 (by omega))) ?k1 ?k2 ?k3 ?k4 ?k5 ?kK ?kd ?ku ?_
        walk_at "TELLS"
        rintro r tl h9 tk9 F9 N9 o9 ⟨rfl, qq, rfl⟩
        simp only [List.nil_append] at N9
        rw [← k9, if_neg (by omega)]
        dsimp only
        k_steps
        rename Fr _ _ _ _ => F5
        rename News _ _ _ _ => N5
        exact REnd.intro ⟨cn' + 1, _⟩ F5 N5 (fun p hp => .tail _ (.tail _ (List.mem_append_left own' hp))) (fun p hp => .tail _ (.tail _ (List.mem_append_right (_ :: _ :: _ :: _ :: _ :: _ :: own) hp))) rfl (by walk_at "NAMES") (by dsimp only; omega)
    · clear F9 N9
      rintro ⟨cn', ct'⟩ u4 h4 tk4 hc' F4 N4
      dsimp only at hc' F4 N4
      k_steps
      refine REnd.intro ⟨cn', _⟩ F4 N4 (fun p hp => .tail _ (List.mem_append_left own hp)) (fun p hp => .tail _ (List.mem_append_right (_ :: _ :: _ :: _ :: _ :: []) hp)) rfl (by walk_at "NAMES") ⟨by dsimp only; omega, fun _ => ?_⟩
      dsimp only
      by_cases hi0 : i = 0
      · have := List.length_pos_iff.mpr (hbn (by have := h55 hi0; omega))
        omega
      · have := hc1 (by omega)
        omega
  · clear F9 N9
    rintro ⟨cn, ct⟩ u3 h3 tk3 ⟨_, hc1⟩ F2 N2
    have hc2 : 1 ≤ cn := hc1 (Nat.le_of_ble_eq_true rfl)
    dsimp only at F2 N2
    k_steps)
end Mine

end

set_option maxRecDepth 100000 in
set_option maxHeartbeats 8000000 in
theorem PySem.Challenge.cw_fp5022_01_holds : PySem.Challenge.rw_fp5022_01.Holds := by
  exact Mine.law_of True.intro
