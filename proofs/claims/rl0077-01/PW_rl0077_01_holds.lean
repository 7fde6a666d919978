import PyProof.Rows.All
import PyProof.MaxThree
import Wide.All
import OpenK.AllK
import Wide.FinOn
import Lean
import PySem.Challenge.RW_rl0077_01
set_option Elab.async false
set_option maxRecDepth 100000
set_option maxHeartbeats 8000000

section PartTopK
open PySem PySem.W PyProof.Rows
set_option linter.unusedVariables false
namespace Mine
theorem two {T W P : Prop} (hl : T) (hc : W) (main : P) : P := main
/-- the head, as the kit's open_top proves it, but for the top's run, which the kernel works out in one step in place of pieces (the goals hl and hc are made ahead, so that k_head finds them) -/
noncomputable def hd := fun walk => show PySem.Challenge.rw_rl0077_01.Holds from by
  w_on
  o_law
  apply two
  case main =>
    k_head
    case hw => w_witness2
  case hl => intro w; kernel_rfl
  case hc => exact walk
end Mine
end PartTopK

section PartMPlain
set_option autoImplicit false
namespace Mine

/-- the wheel: images of the hues, led on -/
structure Deg (N : Nat) (im : List Nat) : Prop where
  len : im.length = N
  h4 : 4 ≤ N
  h8 : N ≤ 8
  lt : ∀ x ∈ im, x < 2 * N
  mono : ∀ i j, i ≤ j → j < N → im.getD i 0 ≤ im.getD j 0
  last : im.getD (N - 1) 0 ≤ im.getD 0 0 + N

def F (N : Nat) (im : List Nat) (x : Nat) : Nat := im.getD (x % N) 0 + N * (x / N)
def it (N : Nat) (im : List Nat) : Nat → Nat → Nat
  | 0, x => x
  | k + 1, x => F N im (it N im k x)
def turnOf (N : Nat) (im : List Nat) (x : Nat) : Nat := im.getD (x % N) 0 / N
/-- the letters of a start -/
def lettersOf (N : Nat) (im : List Nat) (x k : Nat) : List Nat := (List.range k).map fun i => turnOf N im (it N im i x)

/-- the hues that occur behind k steps -/
def KeptAt (N : Nat) (im : List Nat) (k : Nat) (ks : List Nat) : Prop := ks.Pairwise (· < ·) ∧ ∀ x, x ∈ ks ↔ ∃ y, y < N ∧ x = it N im k y % N

section
variable {N : Nat} {im : List Nat} (D : Deg N im)
include D
theorem Deg.pos : 0 < N := by have := D.h4; lia
theorem Deg.get_lt {i : Nat} (h : i < N) : im.getD i 0 < 2 * N := by
  rw [List.getD_eq_getElem?_getD, List.getElem?_eq_getElem (by rw [D.len]; exact h), Option.getD_some]
  exact D.lt _ (List.getElem_mem _)
theorem Deg.turn_lt (x : Nat) : turnOf N im x < 2 := by
  unfold turnOf
  rw [Nat.div_lt_iff_lt_mul D.pos]
  exact D.get_lt (Nat.mod_lt _ D.pos)
theorem F_mod (x : Nat) : F N im x % N = im.getD (x % N) 0 % N := by unfold F; rw [Nat.add_mul_mod_self_left]
theorem F_div (x : Nat) : F N im x / N = turnOf N im x + x / N := by unfold F turnOf; rw [Nat.add_mul_div_left _ _ D.pos]
theorem it_div_succ (k x : Nat) : it N im (k + 1) x / N = turnOf N im (it N im k x) + it N im k x / N := F_div D _
theorem it_mod_succ (k x : Nat) : it N im (k + 1) x % N = im.getD (it N im k x % N) 0 % N := F_mod D _
end

theorem kept_zero {N : Nat} {im : List Nat} : KeptAt N im 0 (List.range N) := by
  refine ⟨List.pairwise_lt_range, fun x => ?_⟩
  rw [List.mem_range]
  constructor
  · intro h; exact ⟨x, h, (Nat.mod_eq_of_lt h).symm⟩
  · rintro ⟨y, hy, rfl⟩; exact Nat.mod_lt _ (by lia)
theorem kept_succ {N : Nat} {im : List Nat} (D : Deg N im) {k : Nat} {ks ks' : List Nat} (h : KeptAt N im k ks) (hs : ks'.Pairwise (· < ·)) (hm : ∀ x, x ∈ ks' ↔ x ∈ ks.map fun one => im.getD one 0 % N) : KeptAt N im (k + 1) ks' := by
  refine ⟨hs, fun x => ?_⟩
  rw [hm, List.mem_map]
  constructor
  · rintro ⟨one, h1, rfl⟩
    obtain ⟨y, hy, rfl⟩ := (h.2 _).mp h1
    exact ⟨y, hy, by rw [it_mod_succ D]⟩
  · rintro ⟨y, hy, rfl⟩
    exact ⟨it N im k y % N, (h.2 _).mpr ⟨y, hy, rfl⟩, by rw [it_mod_succ D]⟩
theorem kept_lt {N : Nat} {im : List Nat} (hN : 0 < N) {k : Nat} {ks : List Nat} (h : KeptAt N im k ks) : ∀ x ∈ ks, x < N := fun x hx => by
  obtain ⟨y, _, rfl⟩ := (h.2 x).mp hx
  exact Nat.mod_lt _ hN

section
variable {N : Nat} {im : List Nat} (D : Deg N im)
include D
theorem F_add (x m : Nat) : F N im (x + N * m) = F N im x + N * m := by
  unfold F
  rw [Nat.add_mul_mod_self_left, Nat.add_mul_div_left _ _ D.pos, Nat.mul_add, Nat.add_assoc]
theorem it_add (k x m : Nat) : it N im k (x + N * m) = it N im k x + N * m := by
  induction k with
  | zero => rfl
  | succ k ih => show F N im (it N im k (x + N * m)) = _; rw [ih, F_add D]; rfl
theorem it_low (k x : Nat) : it N im k x = it N im k (x % N) + N * (x / N) := by
  conv => lhs; rw [← Nat.mod_add_div x N]
  exact it_add D k (x % N) (x / N)
omit D in
theorem it_F (k x : Nat) : it N im k (F N im x) = F N im (it N im k x) := by
  induction k with
  | zero => rfl
  | succ k ih => show F N im (it N im k (F N im x)) = F N im (F N im (it N im k x)); rw [ih]
omit D in
theorem it_it (k l x : Nat) : it N im k (it N im l x) = it N im (k + l) x := by
  induction k with
  | zero => simp [it]
  | succ k ih => rw [Nat.succ_add]; show F N im (it N im k (it N im l x)) = F N im (it N im (k + l) x); rw [ih]
/-- kept is led into itself -/
theorem kept_closed {k : Nat} {ks : List Nat} (h : KeptAt N im k ks) {x : Nat} (hx : x ∈ ks) : im.getD x 0 % N ∈ ks := by
  obtain ⟨y, hy, rfl⟩ := (h.2 x).mp hx
  refine (h.2 _).mpr ⟨F N im y % N, Nat.mod_lt _ D.pos, ?_⟩
  rw [← it_mod_succ D]
  show F N im (it N im k y) % N = _
  rw [← it_F, it_low D k (F N im y), Nat.add_mul_mod_self_left]
theorem kept_ne {k : Nat} {ks : List Nat} (h : KeptAt N im k ks) : 0 < ks.length := by
  have := (h.2 _).mpr ⟨0, D.pos, rfl⟩
  exact List.length_pos_of_mem this
end

def shiftOf (N : Nat) (im ks : List Nat) : Nat := im.getD (ks.getD 0 0) 0 / N * ks.length + ks.idxOf (im.getD (ks.getD 0 0) 0 % N)
theorem idx_cast : ∀ (l : List Nat) (k : Nat), (l.map fun (i : Nat) => (i : Int)).idxOf (k : Int) = l.idxOf k
  | [], _ => rfl
  | a :: l, k => by
    rw [List.map_cons, List.idxOf_cons, List.idxOf_cons, idx_cast l k]
    by_cases q : a = k
    · subst q; simp
    · have q' : ¬ (a : Int) = (k : Int) := by lia
      simp [beq_eq_false_iff_ne.mpr q, beq_eq_false_iff_ne.mpr q']
end Mine
end PartMPlain

section PartMPlain2
set_option autoImplicit false
set_option linter.unusedVariables false
namespace Mine
section
variable {N : Nat} {im : List Nat} (D : Deg N im)
include D
theorem F_mono {x y : Nat} (h : x ≤ y) : F N im x ≤ F N im y := by
  have hp := D.pos
  have hx := Nat.mod_lt x hp
  have hy := Nat.mod_lt y hp
  have dx := Nat.mod_add_div x N
  have dy := Nat.mod_add_div y N
  have hd : x / N ≤ y / N := Nat.div_le_div_right h
  unfold F
  rcases Nat.eq_or_lt_of_le hd with e | e
  · have hm : x % N ≤ y % N := by rw [e] at dx; lia
    have := D.mono _ _ hm hy
    rw [e]; lia
  · have h1 := D.mono (x % N) (N - 1) (by lia) (by lia)
    have h2 := D.last
    have h3 := D.mono 0 (y % N) (Nat.zero_le _) hy
    have h4 : N * (x / N + 1) ≤ N * (y / N) := Nat.mul_le_mul_left _ e
    rw [Nat.mul_add] at h4
    lia
theorem it_mono {x y : Nat} (h : x ≤ y) : ∀ k, it N im k x ≤ it N im k y
  | 0 => h
  | k + 1 => F_mono D (it_mono h k)
theorem it_mod (k x : Nat) : it N im k x % N = it N im k (x % N) % N := by
  rw [it_low D k x, Nat.add_mul_mod_self_left]
theorem it_congr {x y : Nat} (h : x % N = y % N) (k : Nat) : it N im k x % N = it N im k y % N := by
  rw [it_mod D k x, it_mod D k y, h]
end

theorem pigeon : ∀ (n : Nat) (g : Nat → Nat), (∀ i, i ≤ n → g i < n) → ∃ i j, i < j ∧ j ≤ n ∧ g i = g j
  | 0, g, h => absurd (h 0 (Nat.le_refl _)) (Nat.not_lt_zero _)
  | n + 1, g, h => by
    by_cases q : ∃ i, i ≤ n ∧ g i = g (n + 1)
    · obtain ⟨i, hi, e⟩ := q
      exact ⟨i, n + 1, by lia, Nat.le_refl _, e⟩
    · have hne : ∀ i, i ≤ n → g i ≠ g (n + 1) := fun i hi e => q ⟨i, hi, e⟩
      have hl := h (n + 1) (Nat.le_refl _)
      obtain ⟨i, j, h1, h2, h3⟩ := pigeon n (fun i => if g i < g (n + 1) then g i else g i - 1) (fun i hi => by
        have a := h i (by lia)
        have b := hne i hi
        split <;> lia)
      refine ⟨i, j, h1, by lia, ?_⟩
      have a := hne i (by lia)
      have b := hne j (by lia)
      split at h3 <;> split at h3 <;> lia

section
variable {N : Nat} {im ks : List Nat} (D : Deg N im) (hK : KeptAt N im N ks)
include D
theorem it_next {a b : Nat} (x : Nat) (h : it N im a x % N = it N im b x % N) (t : Nat) : it N im (t + a) x % N = it N im (t + b) x % N := by
  rw [← it_it, ← it_it]; exact it_congr D h t
include hK
theorem per {x : Nat} (hx : x ∈ ks) : ∃ d, 0 < d ∧ it N im d x % N = x := by
  obtain ⟨z, hz, rfl⟩ := (hK.2 x).mp hx
  obtain ⟨i, j, h1, h2, h3⟩ := pigeon N (fun i => it N im i z % N) fun i _ => Nat.mod_lt _ D.pos
  refine ⟨j - i, by lia, ?_⟩
  have h4 := it_next D z h3 (N - i)
  rw [show N - i + i = N by lia, show N - i + j = (j - i) + N by lia] at h4
  rw [← it_mod D, it_it]
  exact h4.symm
theorem mem_it {x : Nat} (hx : x % N ∈ ks) (k : Nat) : it N im k x % N ∈ ks := by
  induction k with
  | zero => exact hx
  | succ k ih => rw [it_mod_succ D]; exact kept_closed D hK ih
theorem surj {x : Nat} (hx : x ∈ ks) : ∃ y, y ∈ ks ∧ im.getD y 0 % N = x := by
  obtain ⟨d, hd, e⟩ := per D hK hx
  have hxN := kept_lt D.pos hK x hx
  refine ⟨it N im (d - 1) x % N, mem_it D hK (by rw [Nat.mod_eq_of_lt hxN]; exact hx) _, ?_⟩
  rw [← it_mod_succ D, show d - 1 + 1 = d by lia]
  exact e
theorem per_mul {x d : Nat} (hx : x ∈ ks) (h : it N im d x % N = x) : ∀ n, it N im (d * n) x % N = x
  | 0 => by rw [Nat.mul_zero]; exact Nat.mod_eq_of_lt (kept_lt D.pos hK x hx)
  | n + 1 => by
    rw [Nat.mul_succ, Nat.add_comm, ← it_it, it_mod D, per_mul hx h n]
    exact h
theorem inj {x y : Nat} (hx : x ∈ ks) (hy : y ∈ ks) (h : im.getD x 0 % N = im.getD y 0 % N) : x = y := by
  obtain ⟨d1, p1, e1⟩ := per D hK hx
  obtain ⟨d2, p2, e2⟩ := per D hK hy
  have hxN := kept_lt D.pos hK x hx
  have hyN := kept_lt D.pos hK y hy
  have a1 := per_mul D hK hx e1 d2
  have a2 := per_mul D hK hy e2 d1
  rw [Nat.mul_comm d2 d1] at a2
  have hm : 0 < d1 * d2 := Nat.mul_pos p1 p2
  have h1 : it N im 1 x % N = it N im 1 y % N := by
    rw [it_mod_succ D, it_mod_succ D]
    show im.getD (x % N) 0 % N = im.getD (y % N) 0 % N
    rw [Nat.mod_eq_of_lt hxN, Nat.mod_eq_of_lt hyN]; exact h
  have h2 : ∀ m, 0 < m → it N im m x % N = it N im m y % N := by
    intro m hm
    have e : m = (m - 1) + 1 := by lia
    rw [e, ← it_it, ← it_it]
    exact it_congr D h1 _
  rw [← a1, ← a2]
  exact h2 _ hm
theorem F_strict {a b : Nat} (ha : a % N ∈ ks) (hb : b % N ∈ ks) (h : a < b) : F N im a < F N im b := by
  have hle := F_mono D (Nat.le_of_lt h)
  rcases Nat.eq_or_lt_of_le hle with e | e
  · exfalso
    have hm : im.getD (a % N) 0 % N = im.getD (b % N) 0 % N := by
      have e1 := F_mod D a
      have e2 := F_mod D b
      rw [e] at e1
      exact e1.symm.trans e2
    have hab := inj D hK ha hb hm
    have da := Nat.mod_add_div a N
    have db := Nat.mod_add_div b N
    rw [hab] at da
    have hlt : a / N < b / N := by
      rcases Nat.lt_or_ge (a / N) (b / N) with q | q
      · exact q
      · have := Nat.mul_le_mul_left N q
        lia
    unfold F at e
    rw [hab] at e
    have := Nat.mul_lt_mul_of_pos_left hlt D.pos
    lia
  · exact e
theorem F_in {a : Nat} (ha : a % N ∈ ks) : F N im a % N ∈ ks := by rw [F_mod D]; exact kept_closed D hK ha
/-- a whole turn on, every kept place has one before it -/
theorem F_pre {y : Nat} (hy : y % N ∈ ks) : ∃ x, x % N ∈ ks ∧ F N im x = y + N := by
  obtain ⟨v, hv, e⟩ := surj D hK hy
  have hvN := kept_lt D.pos hK v hv
  have ht := D.turn_lt v
  have hF : F N im v = y % N + N * turnOf N im v := by
    have h1 := Nat.mod_add_div (F N im v) N
    rw [F_mod D, F_div D, Nat.mod_eq_of_lt hvN, e, Nat.div_eq_of_lt hvN, Nat.add_zero] at h1
    exact h1.symm
  refine ⟨v + N * (y / N + 1 - turnOf N im v), ?_, ?_⟩
  · rw [Nat.add_mul_mod_self_left, Nat.mod_eq_of_lt hvN]; exact hv
  · rw [F_add D, hF]
    have dy := Nat.mod_add_div y N
    have e2 : N * turnOf N im v + N * (y / N + 1 - turnOf N im v) = N * (y / N + 1) := by rw [← Nat.mul_add, show turnOf N im v + (y / N + 1 - turnOf N im v) = y / N + 1 from Nat.add_sub_cancel' (by have := Nat.zero_le (y / N); exact Nat.le_trans (Nat.le_of_lt_succ ht) (Nat.le_add_left 1 _))]
    rw [Nat.mul_add N (y / N) 1] at e2
    lia
end

/-- the kept places, in their row -/
def eAt (N : Nat) (ks : List Nat) (j : Nat) : Nat := ks.getD (j % ks.length) 0 + N * (j / ks.length)
section
variable {N : Nat} {im ks : List Nat} (D : Deg N im) (hK : KeptAt N im N ks)
theorem eAt_qr {q r : Nat} (hr : r < ks.length) : eAt N ks (ks.length * q + r) = ks.getD r 0 + N * q := by
  unfold eAt
  rw [Nat.mul_add_mod, Nat.mod_eq_of_lt hr, Nat.mul_add_div (by lia), Nat.div_eq_of_lt hr, Nat.add_zero]
theorem get_mem {r : Nat} (hr : r < ks.length) : ks.getD r 0 ∈ ks := by
  rw [List.getD_eq_getElem?_getD, List.getElem?_eq_getElem hr, Option.getD_some]; exact List.getElem_mem _
theorem get_idx {x : Nat} (hx : x ∈ ks) : ks.getD (ks.idxOf x) 0 = x := by
  have h := List.idxOf_lt_length_iff.mpr hx
  rw [List.getD_eq_getElem?_getD, List.getElem?_eq_getElem h, Option.getD_some, List.getElem_idxOf]
include D hK
theorem e_pos : 0 < ks.length := kept_ne D hK
theorem e_mod (j : Nat) : eAt N ks j % N ∈ ks := by
  have hr := Nat.mod_lt j (e_pos D hK)
  unfold eAt
  rw [Nat.add_mul_mod_self_left, Nat.mod_eq_of_lt (kept_lt D.pos hK _ (get_mem hr))]
  exact get_mem hr
theorem e_div (j : Nat) : eAt N ks j / N = j / ks.length := by
  have hr := Nat.mod_lt j (e_pos D hK)
  unfold eAt
  rw [Nat.add_mul_div_left _ _ D.pos, Nat.div_eq_of_lt (kept_lt D.pos hK _ (get_mem hr)), Nat.zero_add]
theorem e_of {a : Nat} (ha : a % N ∈ ks) : eAt N ks (ks.length * (a / N) + ks.idxOf (a % N)) = a := by
  rw [eAt_qr (List.idxOf_lt_length_iff.mpr ha), get_idx ha]
  exact Nat.mod_add_div a N
theorem e_succ (j : Nat) : eAt N ks j < eAt N ks (j + 1) := by
  have hc := e_pos D hK
  have hr := Nat.mod_lt j hc
  have dj := Nat.div_add_mod j ks.length
  have e1 : eAt N ks j = ks.getD (j % ks.length) 0 + N * (j / ks.length) := rfl
  rcases Nat.lt_or_ge (j % ks.length + 1) ks.length with q | q
  · have e2 : j + 1 = ks.length * (j / ks.length) + (j % ks.length + 1) := by lia
    rw [e2, eAt_qr q, e1]
    have : ks.getD (j % ks.length) 0 < ks.getD (j % ks.length + 1) 0 := by
      rw [List.getD_eq_getElem?_getD, List.getD_eq_getElem?_getD, List.getElem?_eq_getElem hr, List.getElem?_eq_getElem q, Option.getD_some, Option.getD_some]
      exact List.pairwise_iff_getElem.mp hK.1 _ _ hr q (Nat.lt_succ_self _)
    lia
  · have e2 : j + 1 = ks.length * (j / ks.length + 1) + 0 := by rw [Nat.mul_add]; lia
    rw [e2, eAt_qr hc, e1, Nat.mul_add]
    have := kept_lt D.pos hK _ (get_mem hr)
    lia
theorem e_lt {i j : Nat} (h : i < j) : eAt N ks i < eAt N ks j := by
  induction j with
  | zero => lia
  | succ j ih =>
    rcases Nat.eq_or_lt_of_le (Nat.le_of_lt_succ h) with e | e
    · rw [e]; exact e_succ D hK j
    · exact Nat.lt_trans (ih e) (e_succ D hK j)
theorem e_lt_iff {i j : Nat} (h : eAt N ks i < eAt N ks j) : i < j := by
  rcases Nat.lt_or_ge i j with q | q
  · exact q
  · rcases Nat.eq_or_lt_of_le q with e | e
    · rw [e] at h; lia
    · have := e_lt D hK e; lia
theorem e_add (j : Nat) : eAt N ks (j + ks.length) = eAt N ks j + N := by
  unfold eAt
  rw [Nat.add_mod_right, Nat.add_div_right _ (e_pos D hK), Nat.mul_succ, Nat.add_assoc]
/-- one step leads the row shift places on -/
theorem F_e (j : Nat) : F N im (eAt N ks j) = eAt N ks (j + shiftOf N im ks) := by
  have hc := e_pos D hK
  induction j with
  | zero =>
    have e0 : eAt N ks 0 = ks.getD 0 0 := by unfold eAt; rw [Nat.zero_mod, Nat.zero_div]; rfl
    have h0 := get_mem hc
    have hN := kept_lt D.pos hK _ h0
    have hcl := kept_closed D hK h0
    rw [e0, Nat.zero_add]
    unfold shiftOf
    rw [Nat.mul_comm, eAt_qr (List.idxOf_lt_length_iff.mpr hcl), get_idx hcl]
    unfold F
    rw [Nat.mod_eq_of_lt hN, Nat.div_eq_of_lt hN]
    have := Nat.mod_add_div (im.getD (ks.getD 0 0) 0) N
    lia
  | succ j ih =>
    have hm := F_in D hK (e_mod D hK (j + 1))
    have em := e_of D hK hm
    generalize ks.length * (F N im (eAt N ks (j + 1)) / N) + ks.idxOf (F N im (eAt N ks (j + 1)) % N) = m at em
    have hst := F_strict D hK (e_mod D hK j) (e_mod D hK (j + 1)) (e_succ D hK j)
    rw [ih, ← em] at hst
    have h1 := e_lt_iff D hK hst
    rcases Nat.eq_or_lt_of_le (Nat.succ_le_of_lt h1) with q | q
    · rw [← em, ← q]; congr 1; lia
    · exfalso
      -- a kept place between
      obtain ⟨x, hx, hF⟩ := F_pre D hK (e_mod D hK (j + shiftOf N im ks + 1))
      have a1 : eAt N ks (j + shiftOf N im ks) < eAt N ks (j + shiftOf N im ks + 1) := e_succ D hK _
      have a2 : eAt N ks (j + shiftOf N im ks + 1) < eAt N ks m := e_lt D hK q
      rw [em] at a2
      have l1 : eAt N ks (j + ks.length) < x := by
        rcases Nat.lt_or_ge (eAt N ks (j + ks.length)) x with z | z
        · exact z
        · have := F_mono D z
          rw [e_add D hK, show eAt N ks j + N = eAt N ks j + N * 1 by lia, F_add D, ih, hF] at this
          lia
      have l2 : x < eAt N ks (j + 1 + ks.length) := by
        rcases Nat.lt_or_ge x (eAt N ks (j + 1 + ks.length)) with z | z
        · exact z
        · have := F_mono D z
          rw [e_add D hK, show eAt N ks (j + 1) + N = eAt N ks (j + 1) + N * 1 by lia, F_add D, hF] at this
          have a3 : eAt N ks (j + shiftOf N im ks + 1) < F N im (eAt N ks (j + 1)) := a2
          lia
      have ex := e_of D hK hx
      rw [← ex] at l1 l2
      have := e_lt_iff D hK l1
      have := e_lt_iff D hK l2
      lia
theorem it_e (k j : Nat) : it N im k (eAt N ks j) = eAt N ks (j + k * shiftOf N im ks) := by
  induction k with
  | zero => simp [it]
  | succ k ih =>
    show F N im (it N im k (eAt N ks j)) = _
    rw [ih, F_e D hK, Nat.succ_mul, Nat.add_assoc]
end
end Mine
end PartMPlain2

section PartMPlain3
set_option autoImplicit false
set_option linter.unusedVariables false
namespace Mine

def sumTo (f : Nat → Int) : Nat → Int
  | 0 => 0
  | n + 1 => sumTo f n + f n
theorem sumTo_shift (f : Nat → Int) : ∀ n, sumTo (fun j => f (j + 1)) n + f 0 = sumTo f n + f n
  | 0 => by simp [sumTo]
  | n + 1 => by
    have := sumTo_shift f n
    simp only [sumTo] at *
    lia
theorem sumTo_sub (f h : Nat → Int) : ∀ n, sumTo (fun j => f j - h j) n = sumTo f n - sumTo h n
  | 0 => rfl
  | n + 1 => by simp only [sumTo, sumTo_sub f h n]; lia
/-- a mean that is nowhere missed by M or more -/
theorem mean_near {A M : Int} (b : Nat → Int) : ∀ n, (∀ j, j < n → -M < A - b j ∧ A - b j < M) → -((n : Int) * (M - 1)) ≤ (n : Int) * A - sumTo b n ∧ (n : Int) * A - sumTo b n ≤ (n : Int) * (M - 1)
  | 0, _ => by simp [sumTo]
  | n + 1, h => by
    have ih := mean_near b n fun j hj => h j (by lia)
    have h1 := h n (Nat.lt_succ_self n)
    have e1 : ((n + 1 : Nat) : Int) * A = (n : Int) * A + A := by rw [Int.natCast_succ, Int.add_mul]; lia
    have e2 : ((n + 1 : Nat) : Int) * (M - 1) = (n : Int) * (M - 1) + (M - 1) := by rw [Int.natCast_succ, Int.add_mul]; lia
    rw [e1, e2]
    simp only [sumTo]
    lia

section
variable {N : Nat} {im ks : List Nat} (D : Deg N im) (hK : KeptAt N im N ks)
include D
/-- two ways of k steps differ by less than one turn -/
theorem way_near {x y : Nat} (hx : x < N) (hy : y < N) (k : Nat) :
    -(N : Int) < ((it N im k x : Nat) : Int) - (x : Int) - (((it N im k y : Nat) : Int) - (y : Int)) ∧ ((it N im k x : Nat) : Int) - (x : Int) - (((it N im k y : Nat) : Int) - (y : Int)) < (N : Int) := by
  have key : ∀ x y : Nat, x ≤ y → y < x + N → it N im k x ≤ it N im k y ∧ it N im k y ≤ it N im k x + N := fun x y h1 h2 => by
    refine ⟨it_mono D h1 k, ?_⟩
    have := it_mono D (show y ≤ x + N * 1 by lia) k
    rw [it_add D] at this
    lia
  rcases Nat.le_total x y with h | h
  · have := key x y h (by lia)
    rcases Nat.eq_or_lt_of_le h with e | e
    · subst e
      have := D.pos
      lia
    · lia
  · have := key y x h (by lia)
    rcases Nat.eq_or_lt_of_le h with e | e
    · subst e
      have := D.pos
      lia
    · lia
include hK
theorem row_sum (s : Nat) : sumTo (fun j => ((eAt N ks (j + s) : Nat) : Int)) ks.length - sumTo (fun j => ((eAt N ks j : Nat) : Int)) ks.length = (s : Int) * (N : Int) := by
  induction s with
  | zero => simp
  | succ s ih =>
    have h := sumTo_shift (fun j => ((eAt N ks (j + s) : Nat) : Int)) ks.length
    have e1 : (fun j => ((eAt N ks (j + 1 + s) : Nat) : Int)) = fun j => ((eAt N ks (j + (s + 1)) : Nat) : Int) := by
      funext j; rw [show j + 1 + s = j + (s + 1) by lia]
    rw [e1] at h
    have e2 : eAt N ks (ks.length + s) = eAt N ks (0 + s) + N := by rw [Nat.add_comm, e_add D hK, Nat.zero_add]
    rw [e2] at h
    rw [Int.natCast_succ, Int.add_mul]
    lia
/-- Poincare: at every step less than a turn off -/
theorem rot_near {x : Nat} (hx : x < N) (k : Nat) :
    -((ks.length : Int) * (N : Int)) < (ks.length : Int) * (((it N im k x : Nat) : Int) - (x : Int)) - (k : Int) * (shiftOf N im ks : Int) * (N : Int) ∧
    (ks.length : Int) * (((it N im k x : Nat) : Int) - (x : Int)) - (k : Int) * (shiftOf N im ks : Int) * (N : Int) < (ks.length : Int) * (N : Int) := by
  have hc := e_pos D hK
  have hm := mean_near (A := ((it N im k x : Nat) : Int) - (x : Int)) (M := (N : Int)) (fun j => ((eAt N ks (j + k * shiftOf N im ks) : Nat) : Int) - ((eAt N ks j : Nat) : Int)) ks.length fun j hj => by
    have hjN : eAt N ks j < N := by
      have e : eAt N ks j = ks.getD j 0 := by
        have := eAt_qr (N := N) (ks := ks) (q := 0) hj
        simpa using this
      rw [e]
      exact kept_lt D.pos hK _ (get_mem hj)
    have := way_near D hx hjN k
    rw [it_e D hK] at this
    exact this
  rw [sumTo_sub, row_sum D hK] at hm
  have e : ((k * shiftOf N im ks : Nat) : Int) * (N : Int) = (k : Int) * (shiftOf N im ks : Int) * (N : Int) := by rw [Int.natCast_mul]
  rw [e] at hm
  have e2 : (ks.length : Int) * ((N : Int) - 1) = (ks.length : Int) * (N : Int) - (ks.length : Int) := by rw [Int.mul_sub]; lia
  rw [e2] at hm
  have : (0 : Int) < (ks.length : Int) := by lia
  lia
theorem rot_laps {ways ring rounds : Nat} (hw : 0 < ways) (hc : ks.length = ring * ways) (hs : shiftOf N im ks = rounds * ways) (m x : Nat) (hx : x < N) :
    it N im (N + m) x / N = it N im N x / N + (ks.idxOf (it N im N x % N) / ways + m * rounds) / ring := by
  have hmem : it N im N x % N ∈ ks := (hK.2 _).mpr ⟨x, hx, rfl⟩
  have hpos := e_pos D hK
  rw [Nat.add_comm N m, ← it_it]
  have e := e_of D hK hmem
  generalize hb : it N im N x / N = base at e ⊢
  generalize ks.idxOf (it N im N x % N) = idx at e ⊢
  rw [← e, it_e D hK, e_div D hK, hs]
  have e1 : ks.length * base + idx + m * (rounds * ways) = ks.length * base + (idx + m * rounds * ways) := by rw [Nat.mul_assoc]; lia
  rw [e1, Nat.mul_add_div hpos, hc, Nat.mul_comm ring ways, ← Nat.div_div_eq_div_mul, Nat.add_mul_div_right _ _ hw]
theorem rounds_le {ways ring rounds : Nat} (hw : 0 < ways) (hr : 0 < ring) (hc : ks.length = ring * ways) (hs : shiftOf N im ks = rounds * ways) (hlap : ∀ k, it N im k (ks.getD 0 0) / N ≤ k) : rounds ≤ ring := by
  have h := hlap ring
  have e0 : eAt N ks 0 = ks.getD 0 0 := by unfold eAt; rw [Nat.zero_mod, Nat.zero_div]; rfl
  rw [← e0, it_e D hK, e_div D hK, hs, hc, Nat.zero_add] at h
  have : ring * (rounds * ways) / (ring * ways) = rounds := by
    rw [show ring * (rounds * ways) = rounds * (ring * ways) by rw [Nat.mul_left_comm]]
    exact Nat.mul_div_cancel _ (Nat.mul_pos hr hw)
  rw [this] at h
  exact h
/-- the letters of a kept hue -/
theorem letters_pq {ways ring rounds : Nat} (hw : 0 < ways) (hc : ks.length = ring * ways) (hs : shiftOf N im ks = rounds * ways) {r : Nat} (hr : r < ring) :
    lettersOf N im (ks.getD (r * ways) 0) ring = (List.range ring).map fun i => (r + (i + 1) * rounds) / ring - (r + i * rounds) / ring := by
  have hrc : r * ways < ks.length := by rw [hc]; exact Nat.mul_lt_mul_of_pos_right hr hw
  have e0 : eAt N ks (r * ways) = ks.getD (r * ways) 0 := by
    have := eAt_qr (N := N) (ks := ks) (q := 0) hrc
    simpa using this
  have hl : ∀ i, it N im i (ks.getD (r * ways) 0) / N = (r + i * rounds) / ring := fun i => by
    rw [← e0, it_e D hK, e_div D hK, hs, hc, show r * ways + i * (rounds * ways) = (r + i * rounds) * ways by rw [Nat.add_mul, Nat.mul_assoc], Nat.mul_div_mul_right _ _ hw]
  unfold lettersOf
  refine List.map_congr_left fun i _ => ?_
  have h1 := it_div_succ D i (ks.getD (r * ways) 0)
  rw [hl, hl] at h1
  lia
end

/-- one list of letters goes ahead of another, or is the same -/
def Ahead (a b : List Nat) : Prop := a = b ∨ (a < b ∧ ¬ b < a)
theorem ahead_cons {x : Nat} {a b : List Nat} (h : Ahead a b) : Ahead (x :: a) (x :: b) := by
  rcases h with e | ⟨h1, h2⟩
  · exact .inl (by rw [e])
  · refine .inr ⟨List.cons_lt_cons_iff.mpr (.inr ⟨rfl, h1⟩), fun q => ?_⟩
    rcases List.cons_lt_cons_iff.mp q with z | ⟨_, z⟩
    · lia
    · exact h2 z
theorem ahead_head {x y : Nat} {a b : List Nat} (h : x < y) : Ahead (x :: a) (y :: b) := by
  refine .inr ⟨List.cons_lt_cons_iff.mpr (.inl h), fun q => ?_⟩
  rcases List.cons_lt_cons_iff.mp q with z | ⟨z, _⟩
  · lia
  · lia
theorem letters_cons (N : Nat) (im : List Nat) (x k : Nat) : lettersOf N im x (k + 1) = turnOf N im x :: lettersOf N im (F N im x) k := by
  unfold lettersOf
  rw [List.range_succ_eq_map, List.map_cons, List.map_map]
  congr 1
  refine List.map_congr_left fun i _ => ?_
  show turnOf N im (F N im (it N im i x)) = _
  rw [← it_F]
theorem words_ahead {N : Nat} {im : List Nat} (D : Deg N im) (code : Nat → Nat) (hcode : code 0 < code 1) : ∀ (k x y : Nat), x ≤ y → x / N = y / N → Ahead ((lettersOf N im x k).map code) ((lettersOf N im y k).map code)
  | 0, x, y, _, _ => .inl rfl
  | k + 1, x, y, h, e => by
    rw [letters_cons, letters_cons, List.map_cons, List.map_cons]
    have hp := D.pos
    have dx := Nat.mod_add_div x N
    have dy := Nat.mod_add_div y N
    have hm : x % N ≤ y % N := by rw [e] at dx; lia
    have ht : turnOf N im x ≤ turnOf N im y := Nat.div_le_div_right (D.mono _ _ hm (Nat.mod_lt y hp))
    have t1 := D.turn_lt x
    have t2 := D.turn_lt y
    rcases Nat.eq_or_lt_of_le ht with q | q
    · rw [q]
      refine ahead_cons (words_ahead D code hcode k _ _ (F_mono D h) ?_)
      rw [F_div D, F_div D, q, e]
    · rw [show turnOf N im x = 0 by lia, show turnOf N im y = 1 by lia]
      exact ahead_head hcode
end Mine
end PartMPlain3

section PartMBase
open PySem PySem.W PyProof.Rows
set_option autoImplicit false
set_option linter.unusedVariables false
namespace Mine

/-- a value without its token -/
inductive V where
  | unb | none | bool (b : Bool) | int (i : Int) | float (b : UInt64) | str (s : Str) | ref (a : Addr) | raw (v : Value)

@[reducible] def V.val : V → Tok → Value
  | .unb, _ => .none
  | .none, _ => .none
  | .bool b, _ => .bool b
  | .int i, t => .int i t
  | .float b, t => .float b (t + 1)
  | .str s, t => .str s t
  | .ref a, _ => .ref a
  | .raw v, _ => v

@[reducible] def V.of : Value → V
  | .none => .none
  | .bool b => .bool b
  | .int i _ => .int i
  | .float b (_ + 1) => .float b
  | .float b 0 => .raw (.float b 0)
  | .str s _ => .str s
  | .ref a => .ref a
  | .ellipsis => .raw .ellipsis
  | .notImplemented => .raw .notImplemented
  | .bytes b t => .raw (.bytes b t)
  | .type n => .raw (.type n)
  | .builtin n => .raw (.builtin n)

theorem V.of_val (v : Value) : ∃ t, v = (V.of v).val t := by
  cases v with
  | int i t => exact ⟨t, rfl⟩
  | float i t => cases t with
    | zero => exact ⟨0, rfl⟩
    | succ t => exact ⟨t, rfl⟩
  | str i t => exact ⟨t, rfl⟩
  | _ => exact ⟨0, rfl⟩

def nth {α : Type} : List α → Nat → Option α
  | [], _ => none
  | a :: _, 0 => some a
  | _ :: l, n + 1 => nth l n
def setAt {α : Type} : List α → Nat → α → List α
  | [], _, _ => []
  | _ :: l, 0, b => b :: l
  | a :: l, n + 1, b => a :: setAt l n b
theorem nth_mem {α : Type} : ∀ {l : List α} {i : Nat} {a : α}, nth l i = some a → a ∈ l
  | _ :: _, 0, _, h => by cases h; exact .head _
  | _ :: l, n + 1, _, h => .tail _ (nth_mem (l := l) (i := n) h)
theorem nth_setAt {α : Type} : ∀ {l : List α} {i j : Nat} {b c : α}, nth (setAt l i b) j = some c → (i = j ∧ c = b) ∨ (i ≠ j ∧ nth l j = some c)
  | [], _, _, _, _, h => by cases h
  | _ :: _, 0, 0, _, _, h => by cases h; exact .inl ⟨rfl, rfl⟩
  | _ :: _, 0, n + 1, _, _, h => .inr ⟨by lia, h⟩
  | _ :: _, n + 1, 0, _, _, h => .inr ⟨by lia, h⟩
  | _ :: l, n + 1, k + 1, _, _, h => by
    rcases nth_setAt (l := l) (i := n) (j := k) h with ⟨a, b⟩ | ⟨a, b⟩
    · exact .inl ⟨by lia, b⟩
    · exact .inr ⟨by lia, b⟩
theorem mem_setAt {α : Type} : ∀ {l : List α} {i : Nat} {b c : α}, c ∈ setAt l i b → c = b ∨ (∃ j, j ≠ i ∧ nth l j = some c)
  | _ :: _, 0, _, _, .head _ => .inl rfl
  | _ :: l, 0, _, c, .tail _ h => .inr (by
      have : ∀ {l : List α} {c : α}, c ∈ l → ∃ j, nth l j = some c := by
        intro l c h
        induction h with
        | head => exact ⟨0, rfl⟩
        | tail _ _ ih => obtain ⟨j, e⟩ := ih; exact ⟨j + 1, e⟩
      obtain ⟨j, e⟩ := this h
      exact ⟨j + 1, by lia, e⟩)
  | _ :: _, n + 1, _, _, .head _ => .inr ⟨0, by lia, rfl⟩
  | _ :: l, n + 1, _, _, .tail _ h => by
    rcases mem_setAt (l := l) (i := n) h with e | ⟨j, a, b⟩
    · exact .inl e
    · exact .inr ⟨j + 1, by lia, b⟩
theorem map_setAt {α β : Type} (f : α → β) : ∀ {l : List α} {i : Nat} {a b : α}, nth l i = some a → f a = f b → (setAt l i b).map f = l.map f
  | _ :: _, 0, _, _, h, e => by cases h; simp [setAt, e]
  | _ :: l, n + 1, _, _, h, e => by simp [setAt, map_setAt f (l := l) (i := n) h e]

/-- the locals: those of which something is known -/
def Loc (h : Heap) (L : Addr) (names : List Str) (vals : List V) : Prop :=
  ∃ m, h.Ns L m ∧ ∀ i x d, nth names i = some x → nth vals i = some d → d ≠ .unb → ∃ t, m x = some (d.val t)

abbrev Led := List (Addr × (Obj → Prop))


/-- a code record: no object that a step of a frame changes looks so -/
def Codeish (o : Obj) : Prop := ∃ vs q t, o.data = .fields vs ∧ vs[1]? = some (.str q t)

/-- a table of nested codes: without, or with the code of the place -/
def TabSt (pos : Pos) (q : Str) (P : Addr) (h : Heap) : Prop :=
  ∃ ps, h.get? P = some (tabObj ps) ∧ TriplesOk ps.toList ∧ (codeAmong pos ps.toList = none ∨ ∃ c', codeAmong pos ps.toList = some (.ref c') ∧ h.CodeRec (.ref c') q)

noncomputable abbrev KK : Params → Frag := hd.heap_39
abbrev pos51 : Pos := ⟨96, 4, 105, 28⟩
abbrev pos58 : Pos := ⟨111, 4, 116, 55⟩
abbrev q51 : Str := Str.ofString "_int2digits.<locals>.inner"
abbrev q58 : Str := Str.ofString "_digits2int.<locals>.inner"

/-- what stands behind the top's run, the two tables hidden -/
structure GG (w : World) (G : Heap) (mg mb : Str → Option Value) : Prop where
  X : (KK w.params).In G
  g : G.Ns mainGlobals mg
  b : G.Ns builtinsNs mb
  lim : G.NoLimit
  bi : ∀ x : Str, x ≠ "__name__" → mb x = bootBuiltins x
  c51 : CodeHd G 55 51
  c58 : CodeHd G 62 58
  n51 : G.get? 51 = none
  n58 : G.get? 58 = none
  bm : ∃ bm ob, mg "__builtins__" = some (.ref bm) ∧ bm ≠ builtinsNs ∧ G.get? bm = some ob ∧ ob.cls = .type "module" ∧ ob.dict = some builtinsNs ∧ ob.data = .plain

structure Glob (G h : Heap) : Prop where
  keep : ∀ b o, G.get? b = some o → h.get? b = some o
  t51 : TabSt pos51 q51 51 h
  t58 : TabSt pos58 q58 58 h

/-- all that stood stands, but for the tables -/
def Kept (h h' : Heap) : Prop := ∀ b o, h.get? b = some o → b ≠ 51 → b ≠ 58 → h'.get? b = some o
theorem Kept.refl (h : Heap) : Kept h h := fun _ _ e _ _ => e
theorem Kept.trans {a b c : Heap} (x : Kept a b) (y : Kept b c) : Kept a c := fun _ _ e h1 h2 => y _ _ (x _ _ e h1 h2) h1 h2
theorem Kept.of {h h' : Heap} (x : ∀ b o, h.get? b = some o → h'.get? b = some o) : Kept h h' := fun b o e _ _ => x b o e

theorem TabSt.up {pos : Pos} {q : Str} {P : Addr} {h h' : Heap} (x : TabSt pos q P h) (k : ∀ b o, h.get? b = some o → b = P ∨ Codeish o → h'.get? b = some o) : TabSt pos q P h' := by
  obtain ⟨ps, e, ht, hc⟩ := x
  refine ⟨ps, k _ _ e (.inl rfl), ht, hc.imp id ?_⟩
  rintro ⟨c', e', c, o, vs, t, hcc, ho, hd, hv⟩
  exact ⟨c', e', c, o, vs, t, hcc, k _ _ ho (.inr ⟨vs, q, t, hd, hv⟩), hd, hv⟩
theorem TabSt.some {pos : Pos} {q : Str} {P : Addr} {h : Heap} (x : TabSt pos q P h) : ∃ ps, h.get? P = .some (tabObj ps) := let ⟨ps, e, _⟩ := x; ⟨ps, e⟩

theorem Glob.up {G h h' : Heap} (x : Glob G h) (k : ∀ b o, h.get? b = some o → (G.get? b = some o ∨ b = 51 ∨ b = 58 ∨ Codeish o) → h'.get? b = some o) : Glob G h' where
  keep := fun b o e => k b o (x.keep b o e) (.inl e)
  t51 := x.t51.up fun b o e h => k b o e (h.elim (fun h => .inr (.inl h)) fun h => .inr (.inr (.inr h)))
  t58 := x.t58.up fun b o e h => k b o e (h.elim (fun h => .inr (.inr (.inl h))) fun h => .inr (.inr (.inr h)))

theorem Glob.keeps {G h h' : Heap} (x : Glob G h) (k : ∀ b o, h.get? b = some o → h'.get? b = some o) : Glob G h' := x.up fun b o e _ => k b o e
/-- an address that is free is none of the tables' -/
theorem Glob.free {G h : Heap} (x : Glob G h) {a : Addr} (e : h.get? a = none) : a ≠ 51 ∧ a ≠ 58 := by
  constructor
  · rintro rfl
    obtain ⟨ps, q⟩ := x.t51.some
    rw [e] at q; cases q
  · rintro rfl
    obtain ⟨ps, q⟩ := x.t58.some
    rw [e] at q; cases q
theorem Kept.free {G h h' : Heap} (k : Kept h h') (x : Glob G h') {a : Addr} (e : h'.get? a = none) : h.get? a = none := by
  cases q : h.get? a with
  | none => rfl
  | some ob =>
    have f := x.free e
    have := k _ _ q f.1 f.2
    rw [e] at this; cases this
theorem none_size (h : Heap) : h.get? h.objs.size = none := by
  cases q : h.get? h.objs.size with
  | none => rfl
  | some ob => exact absurd (Heap.lt_size q) (Nat.lt_irrefl _)

/-- the state of a frame -/
structure Sta (G B : Heap) (env : Env) (names : List Str) (vals : List V) (led : Led) (h : Heap) : Prop where
  glob : Glob G h
  gB : Glob G B
  low : B.get? env.locals = none
  keep : Kept B h
  loc : Loc h env.locals names vals
  nod : names.Nodup
  kinds : ∀ x ∈ names, env.kindOf x = some .local
  fn : env.scope.kind = .function
  leds : ∀ p ∈ led, B.get? p.1 = none ∧ p.1 ≠ env.locals ∧ ∃ o, h.get? p.1 = some o ∧ p.2 o
  dist : (led.map (·.1)).Nodup

theorem nth_inj {α : Type} : ∀ {l : List α} {i j : Nat} {a : α}, l.Nodup → nth l i = some a → nth l j = some a → i = j
  | _ :: _, 0, 0, _, _, _, _ => rfl
  | _ :: l, 0, j + 1, _, n, h1, h2 => by cases h1; exact absurd (nth_mem (l := l) (i := j) h2) (List.nodup_cons.mp n).1
  | _ :: l, i + 1, 0, _, n, h1, h2 => by cases h2; exact absurd (nth_mem (l := l) (i := i) h1) (List.nodup_cons.mp n).1
  | _ :: l, i + 1, j + 1, _, n, h1, h2 => by rw [nth_inj (List.nodup_cons.mp n).2 (l := l) (i := i) (j := j) h1 h2]

theorem nth_map {α β : Type} (f : α → β) : ∀ {l : List α} {i : Nat} {a : α}, nth l i = some a → nth (l.map f) i = some (f a)
  | _ :: _, 0, _, h => by cases h; rfl
  | _ :: l, i + 1, _, h => nth_map f (l := l) (i := i) h

section
variable {G B h h' : Heap} {env : Env} {names : List Str} {vals : List V} {led : Led}

theorem Sta.free (I : Sta G B env names vals led h) {a : Addr} (e : h.get? a = none) : B.get? a = none := I.keep.free I.glob e

theorem Sta.live (I : Sta G B env names vals led h) : ∃ ob, h.get? env.locals = some ob ∧ ∀ vs, ob.data ≠ .fields vs := by
  obtain ⟨m, ⟨o, es, ep, ho, hd, _⟩, _⟩ := I.loc
  exact ⟨o, ho, fun vs e => by rw [hd] at e; cases e⟩

/-- the frame's own objects stay; others may come -/
theorem Sta.back (I : Sta G B env names vals led h) (k : Kept h h') (g : Glob G h') : Sta G B env names vals led h' where
  glob := g
  gB := I.gB
  low := I.low
  keep := I.keep.trans k
  loc := by
    obtain ⟨m, ⟨o, es, ep, ho, r⟩, hm⟩ := I.loc
    have q := I.gB.free I.low
    exact ⟨m, ⟨o, es, ep, k _ _ ho q.1 q.2, r⟩, hm⟩
  nod := I.nod
  kinds := I.kinds
  fn := I.fn
  leds := fun p hp => by
    obtain ⟨a, b, o, ho, r⟩ := I.leds p hp
    have q := I.gB.free a
    exact ⟨a, b, o, k _ _ ho q.1 q.2, r⟩
  dist := I.dist

theorem Sta.ext (I : Sta G B env names vals led h) (k : ∀ b o, h.get? b = some o → h'.get? b = some o) : Sta G B env names vals led h' :=
  I.back (.of k) (I.glob.keeps k)

theorem Sta.push {r : Addr} {o : Obj} {P : Obj → Prop} (I : Sta G B env names vals led h) (k : Kept h h') (g : Glob G h') (hr : h.get? r = none) (ho : h'.get? r = some o) (hP : P o) : Sta G B env names vals ((r, P) :: led) h' := by
  have J := I.back k g
  have ne : ∀ a ob, h.get? a = some ob → a ≠ r := fun a ob e q => by rw [q, hr] at e; cases e
  refine { J with leds := fun p hp => ?_, dist := ?_ }
  · rcases List.mem_cons.mp hp with rfl | hp
    · obtain ⟨ob, e, _⟩ := I.live
      exact ⟨I.free hr, (ne _ _ e).symm, o, ho, hP⟩
    · exact J.leds p hp
  · refine List.nodup_cons.mpr ⟨fun hm => ?_, J.dist⟩
    obtain ⟨p, hp, e⟩ := List.mem_map.mp hm
    obtain ⟨_, _, o', ho', _⟩ := I.leds p hp
    exact ne _ _ ho' e
theorem Sta.pushK {r : Addr} {o : Obj} {P : Obj → Prop} (I : Sta G B env names vals led h) (k : ∀ b o, h.get? b = some o → h'.get? b = some o) (hr : h.get? r = none) (ho : h'.get? r = some o) (hP : P o) : Sta G B env names vals ((r, P) :: led) h' :=
  I.push (.of k) (I.glob.keeps k) hr ho hP

theorem Sta.upd {i : Nat} {a : Addr} {P P' : Obj → Prop} {o' : Obj} (I : Sta G B env names vals led h) (hi : nth led i = some (a, P)) (hc : ∀ o, P o → ¬ Codeish o) (s : ∀ b o, b ≠ a → h.get? b = some o → h'.get? b = some o) (ho : h'.get? a = some o') (hP : P' o') :
    Sta G B env names vals (setAt led i (a, P')) h' := by
  have hm := nth_mem hi
  obtain ⟨ha, hL, o, ho0, hp0⟩ := I.leds _ hm
  have ne : ∀ b o, B.get? b = some o → b ≠ a := fun b o hb e => by rw [e] at hb; rw [ha] at hb; cases hb
  have f := I.gB.free ha
  refine ⟨?_, I.gB, I.low, fun b o e h1 h2 => s b o (ne b o e) (I.keep b o e h1 h2), ?_, I.nod, I.kinds, I.fn, ?_, ?_⟩
  · refine I.glob.up fun b o e hb => s b o ?_ e
    rcases hb with hb | hb | hb | hb
    · exact ne b o (I.gB.keep _ _ hb)
    · rw [hb]; exact f.1.symm
    · rw [hb]; exact f.2.symm
    · rintro rfl
      rw [ho0] at e; cases e
      exact hc _ hp0 hb
  · obtain ⟨m, ⟨ob, es, ep, q, r⟩, hv⟩ := I.loc
    exact ⟨m, ⟨ob, es, ep, s _ _ (Ne.symm hL) q, r⟩, hv⟩
  · intro p hp
    rcases mem_setAt hp with rfl | ⟨j, hj, e⟩
    · exact ⟨ha, hL, o', ho, hP⟩
    · obtain ⟨x, y, o2, ho2, hp2⟩ := I.leds p (nth_mem e)
      refine ⟨x, y, o2, s _ _ (fun e' => hj ?_) ho2, hp2⟩
      have e1 := nth_map (fun p : Addr × (Obj → Prop) => p.1) e
      have e2 := nth_map (fun p : Addr × (Obj → Prop) => p.1) hi
      rw [e'] at e1
      exact nth_inj I.dist e1 e2
  · rw [map_setAt (b := (a, P')) (·.1) hi rfl]; exact I.dist

/-- what the frame's step does that changes its locals alone -/
theorem Sta.relocal {vals' : List V} (I : Sta G B env names vals led h) (s : ∀ b o, b ≠ env.locals → h.get? b = some o → h'.get? b = some o) (l : Loc h' env.locals names vals') : Sta G B env names vals' led h' := by
  have ne : ∀ b o, B.get? b = some o → b ≠ env.locals := fun b o hb e => by rw [e] at hb; rw [I.low] at hb; cases hb
  have f := I.gB.free I.low
  refine ⟨?_, I.gB, I.low, fun b o e h1 h2 => s b o (ne b o e) (I.keep b o e h1 h2), l, I.nod, I.kinds, I.fn, fun p hp => ?_, I.dist⟩
  · refine I.glob.up fun b o e hb => s b o ?_ e
    rcases hb with hb | hb | hb | hb
    · exact ne b o (I.gB.keep _ _ hb)
    · rw [hb]; exact f.1.symm
    · rw [hb]; exact f.2.symm
    · rintro rfl
      obtain ⟨o', ho', hn⟩ := I.live
      rw [ho'] at e; cases e
      obtain ⟨vs, q, t, hd, _⟩ := hb
      exact hn _ hd
  · obtain ⟨a, b, o, ho, hp⟩ := I.leds p hp
    exact ⟨a, b, o, s _ _ b ho, hp⟩

theorem Sta.store {i : Nat} {x : Str} {v : Value} (I : Sta G B env names vals led h) (hi : nth names i = some x) {m : Str → Option Value}
    (hm : ∀ i x d, nth names i = some x → nth vals i = some d → d ≠ .unb → ∃ t, m x = some (d.val t))
    (n' : h'.Ns env.locals (fun y => if y = x then some v else m y)) (s : Heap.SameBut env.locals h h') : Sta G B env names (setAt vals i (V.of v)) led h' := by
  refine I.relocal (fun b o hb e => (s.2 b hb).trans e) ⟨_, n', fun j y d hj hd hu => ?_⟩
  rcases nth_setAt hd with ⟨rfl, rfl⟩ | ⟨hne, hd⟩
  · have : x = y := by rw [hi] at hj; exact Option.some.inj hj
    subst this
    obtain ⟨t, e⟩ := V.of_val v
    exact ⟨t, by simp only [if_true]; rw [← e]⟩
  · have : y ≠ x := by
      rintro rfl
      exact hne (nth_inj I.nod hi hj)
    simp only [if_neg this]
    exact hm j y d hj hd hu

theorem Sta.get {i : Nat} {a : Addr} {P : Obj → Prop} (I : Sta G B env names vals led h) (hi : nth led i = some (a, P)) : ∃ o, h.get? a = some o ∧ P o := (I.leds _ (nth_mem hi)).2.2
end

abbrev NoE : Value → Shared → Prop := fun _ _ => False

/-- ends without a raise, in Q -/
@[irreducible] def W (prog : Program) (w : World) (A : Around) {α : Type} (tree : Sem α) (Q : α → Shared → Prop) (s : Shared) : Prop := wpAny (model prog w) A tree Q NoE s
theorem W.of {prog : Program} {w : World} {A : Around} {α : Type} {tree : Sem α} {Q : α → Shared → Prop} {s : Shared} (h : wpAny (model prog w) A tree Q NoE s) : W prog w A tree Q s := by unfold W; exact h
theorem W.out {prog : Program} {w : World} {A : Around} {α : Type} {tree : Sem α} {Q : α → Shared → Prop} {s : Shared} (h : W prog w A tree Q s) : wpAny (model prog w) A tree Q NoE s := by unfold W at h; exact h
theorem W.any {prog : Program} {w : World} {A : Around} {α : Type} {tree : Sem α} {Q : α → Shared → Prop} {E : Value → Shared → Prop} {s : Shared} (h : W prog w A tree Q s) : wpAny (model prog w) A tree Q E s :=
  wpAny_mono h.out (fun _ _ q => q) fun _ _ q => q.elim
/-- the count of tokens never falls -/
theorem W.tk {prog : Program} {w : World} {A : Around} {α : Type} {tree : Sem α} {Q : α → Shared → Prop} {s : Shared} (h : W prog w A tree (fun a s' => s.toks ≤ s'.toks → Q a s') s) : W prog w A tree Q s :=
  .of (wpAny_with_toks (Nat.le_refl _) (wpAny_mono h.out (fun _ _ q => q) fun _ _ q => q.elim))
theorem pos_ex {t n : Nat} (h : t + 1 ≤ n) : ∃ m, n = m + 1 := ⟨n - 1, by lia⟩
theorem W.mono {prog : Program} {w : World} {A : Around} {α : Type} {tree : Sem α} {Q Q' : α → Shared → Prop} {s : Shared} (h : W prog w A tree Q s) (k : ∀ a s', Q a s' → Q' a s') : W prog w A tree Q' s :=
  .of (wpAny_mono h.out k fun _ _ q => q)

section
variable {prog : Program} {w : World} {A : Around} {G B h : Heap} {g : Array GenState} {d : Drawn} {t : Nat} {o : OsState} {env : Env} {names : List Str} {vals : List V} {led : Led}

theorem load {i : Nat} {x : Str} {pos : Pos} {v : V} {Q : Value → Shared → Prop} (I : Sta G B env names vals led h) (hi : nth names i = some x) (hv : nth vals i = some v) (hu : v ≠ .unb)
    (k : ∀ u, Q (v.val u) ⟨h, g, d, t, o⟩) (hd : (x == ("__debug__" : Str)) = false) : W prog w A (eval (.Name x pos) env) Q ⟨h, g, d, t, o⟩ := by
  obtain ⟨m, n, hm⟩ := I.loc
  obtain ⟨u, e⟩ := hm i x v hi hv hu
  exact .of (wpAny_Name (wpAny_loadName_local I.fn (I.kinds x (nth_mem hi)) n e (k u)) hd)
theorem store0 {i : Nat} {x : Str} {v : Value} {Q : Unit → Shared → Prop} (I : Sta G B env names vals led h) (hi : nth names i = some x)
    (k : ∀ h' t', Sta G B env names (setAt vals i (V.of v)) led h' → Q () ⟨h', g, d, t', o⟩) : W prog w A (storeName env x v) Q ⟨h, g, d, t, o⟩ := by
  obtain ⟨m, n, hm⟩ := I.loc
  refine .of (wpAny_storeName_local (I.kinds x (nth_mem hi)) n (fun h' n' s => k h' _ (I.store hi hm n' s)) ?_)
  rw [I.fn]; rfl
theorem store {i : Nat} {x : Str} {v : Value} {Q : Unit → Shared → Prop} (I : Sta G B env names vals led h) (hi : nth names i = some x)
    (k : ∀ h' t', Sta G B env names (setAt vals i (V.of v)) led h' → Q () ⟨h', g, d, t' + 1, o⟩) : W prog w A (storeName env x v) Q ⟨h, g, d, t + 1, o⟩ := by
  obtain ⟨m, n, hm⟩ := I.loc
  refine .of (wpAny_storeName_local (I.kinds x (nth_mem hi)) n (fun h' n' s => k h' _ (I.store hi hm n' s)) ?_)
  rw [I.fn]; rfl
end
end Mine
end PartMBase

section PartMCall
open PySem PySem.W PyProof.Rows
set_option autoImplicit false
set_option linter.unusedVariables false
namespace Mine

noncomputable def fdOf (P : Params) (a : Addr) : FuncData := match (KK P).lookup a with
  | some ⟨_, _, .func fd, _⟩ => fd
  | _ => default
noncomputable def bodyOf (P : Params) (a : Addr) : List Stmt := match (fdOf P a).body with
  | .stmts b => b
  | _ => []
noncomputable def fnObj (P : Params) (a : Addr) : Obj := { cls := .type "function", data := .func (fdOf P a) }
noncomputable abbrev cenv (w : World) (f L : Addr) : Env := callEnv (fdOf w.params f) L f

theorem nth_append_left {α : Type} : ∀ {l r : List α} {i : Nat} {a : α}, nth l i = some a → nth (l ++ r) i = some a
  | _ :: _, _, 0, _, h => h
  | _ :: l, _, i + 1, _, h => nth_append_left (l := l) (i := i) h

def unbs : Nat → List V
  | 0 => []
  | n + 1 => .unb :: unbs n
theorem nth_unbs : ∀ {n i : Nat} {d : V}, nth (unbs n) i = some d → d = .unb
  | n + 1, 0, _, h => by cases h; rfl
  | n + 1, i + 1, _, h => nth_unbs (n := n) (i := i) h

theorem zip_lookup {ps : List Str} {args : List Value} {i : Nat} {x : Str} {n : Nat} {rest : List Str} {d : V} (hl : ps.length = args.length) (hn : (ps ++ rest).Nodup) (h1 : nth (ps ++ rest) i = some x)
    (h2 : nth (args.map V.of ++ unbs n) i = some d) (hu : d ≠ .unb) : ∃ t, (ps.zip args).lookup x = some (d.val t) := by
  induction ps generalizing args i with
  | nil =>
    cases args with
    | nil => exact absurd (nth_unbs h2) hu
    | cons a l => cases hl
  | cons p ps ih =>
    cases args with
    | nil => cases hl
    | cons a args =>
      cases i with
      | zero =>
        cases h1
        obtain ⟨t, e⟩ := V.of_val a
        have : d = V.of a := by cases h2; rfl
        subst this
        exact ⟨t, by simp only [List.zip_cons_cons, List.lookup_cons, BEq.rfl]; rw [← e]⟩
      | succ i =>
        have hne : x ≠ p := by
          rintro rfl
          exact (List.nodup_cons.mp hn).1 (nth_mem (l := ps ++ rest) (i := i) h1)
        obtain ⟨t, e⟩ := ih (args := args) (i := i) (by simpa using hl) (List.nodup_cons.mp hn).2 h1 h2
        exact ⟨t, by rw [List.zip_cons_cons, List.lookup_cons, beq_eq_false_iff_ne.mpr hne]; exact e⟩

theorem lookup_rev_nodup {β : Type} : ∀ {l : List (Str × β)} {x : Str}, (l.map (·.1)).Nodup → l.reverse.lookup x = l.lookup x
  | [], _, _ => rfl
  | (a, b) :: l, x, h => by
    have h' := List.nodup_cons.mp h
    rw [List.reverse_cons, List.lookup_append, lookup_rev_nodup h'.2, List.lookup_cons]
    by_cases e : x = a
    · subst e
      have hn : l.lookup x = none := by
        rw [List.lookup_eq_none_iff]
        intro p hp
        rw [bne_iff_ne]
        rintro rfl
        exact h'.1 (List.mem_map.mpr ⟨p, hp, rfl⟩)
      rw [hn]; simp
    · have eb : (x == a) = false := beq_eq_false_iff_ne.mpr e
      simp only [eb]
      cases hl : l.lookup x <;> simp [List.lookup_cons, eb, hl]

theorem zip_fst : ∀ {ps : List Str} {args : List Value}, ps.length = args.length → (ps.zip args).map (·.1) = ps
  | [], [], _ => rfl
  | p :: ps, a :: args, h => by simp [zip_fst (ps := ps) (args := args) (by simpa using h)]

/-- what is asked of a def's record, by evaluation -/
structure DefOk (P : Params) (f : Addr) (ps rest : List Str) : Prop where
  at_ : (KK P).lookup f = some (fnObj P f)
  body : (fdOf P f).body = .stmts (bodyOf P f)
  code : codeIn (KK P) (fdOf P f).code (fdOf P f).qualname = true
  co : (fdOf P f).scope.isCoroutine = false
  gen : (fdOf P f).scope.isGenerator = false
  fn : (fdOf P f).scope.kind = .function
  cell : ((fdOf P f).scope.names.all fun x => x.2 != .cell) = true
  loc : ((ps ++ rest).all fun x => (fdOf P f).scope.names.lookup x == some .local) = true
  nod : (ps ++ rest).Nodup

section
variable {prog : Program} {w : World} {A : Around} {G B h : Heap} {g : Array GenState} {d : Drawn} {t : Nat} {o : OsState} {env : Env} {names : List Str} {vals : List V} {led : Led} {E : Value → Shared → Prop} {mg mb : Str → Option Value}

@[reducible] def retOf : Flow → Value
  | .ret v => v
  | _ => .none

theorem beq_local {x : Option NameKind} (h : (x == some NameKind.local) = true) : x = some .local := by
  cases x with
  | none => cases h
  | some k => cases k <;> first | rfl | cases h

theorem kinds_of {P : Params} {f : Addr} {ps rest : List Str} (D : DefOk P f ps rest) (L : Addr) : ∀ x ∈ ps ++ rest, (callEnv (fdOf P f) L f).kindOf x = some .local := fun x hx =>
  beq_local (List.all_eq_true.mp D.loc x hx)

theorem enter {f : Addr} {ps rest : List Str} {args : List Value} {Q : Value → Shared → Prop} (gg : GG w G mg mb) (hg : Glob G h) (D : DefOk w.params f ps rest) (hroom : A.depth < recursionLimit) (hlen : ps.length = args.length)
    (hbind : bindArgs (fdOf w.params f) ⟨args, []⟩ = pure (ps.zip args))
    (k : ∀ h1 t1, Sta G h (cenv w f h.objs.size) (ps ++ rest) (args.map V.of ++ unbs rest.length) [] h1 →
      W prog w (A.deeper (cenv w f h.objs.size)) (execs (bodyOf w.params f) (cenv w f h.objs.size)) (fun fl s' => Q (retOf fl) s') ⟨h1, g, d, t1 + 1, o⟩) :
    W prog w A (call (.ref f) args) Q ⟨h, g, d, t + 1, o⟩ := by
  refine .of (wpAny_call ?_)
  have ho := hg.keep _ _ (gg.X f _ D.at_)
  have hcell : ∀ x ∈ (fdOf w.params f).scope.names, x.2 ≠ .cell := fun x hx e => by
    have := List.all_eq_true.mp D.cell x hx
    rw [e] at this; cases this
  have hloc : ∀ x ∈ ps.zip args, (fdOf w.params f).scope.names.lookup x.1 = some .local := fun x hx =>
    kinds_of D 0 x.1 (List.mem_append_left _ ((zip_fst hlen) ▸ List.mem_map_of_mem hx))
  refine codeAny_call_def (fd := fdOf w.params f) (body := bodyOf w.params f) (binds := ps.zip args) hroom ho rfl (gg.lim.keeps hg.keep) ((codeRec_of gg.X D.code).keeps hg.keep) D.body (.of_eq hbind) hcell hloc (fun h₁ hns hk₁ => ?_) D.co D.gen D.fn
  have nodp : ps.Nodup := (List.nodup_append.mp D.nod).1
  have et : t + 1 + (ps.zip args).length = (t + (ps.zip args).length) + 1 := by lia
  show wpAny _ _ _ _ _ ⟨h₁, g, d, t + 1 + (ps.zip args).length, o⟩
  rw [et]
  refine wpAny_mono (k h₁ _ ?_).out (fun fl s' q => ?_) fun _ _ q => q.elim
  · refine ⟨hg.keeps hk₁, hg, none_size h, .of hk₁, ⟨_, hns, fun i x dd h1 h2 hu => ?_⟩, D.nod, kinds_of D _, D.fn, (fun p hp => nomatch hp), List.nodup_nil⟩
    have e := zip_lookup hlen D.nod h1 h2 hu
    rw [lookup_rev_nodup (by rw [zip_fst hlen]; exact nodp)]
    exact e
  · cases fl <;> exact q

theorem enterN {f : Addr} {ps rest names : List Str} {vals : List V} {args : List Value} {Q : Value → Shared → Prop} (gg : GG w G mg mb) (hg : Glob G h) (D : DefOk w.params f ps rest) (hroom : A.depth < recursionLimit) (hlen : ps.length = args.length)
    (hbind : bindArgs (fdOf w.params f) ⟨args, []⟩ = pure (ps.zip args)) (hn : ps ++ rest = names) (hv : args.map V.of ++ unbs rest.length = vals)
    (k : ∀ h1 t1, Sta G h (cenv w f h.objs.size) names vals [] h1 →
      W prog w (A.deeper (cenv w f h.objs.size)) (execs (bodyOf w.params f) (cenv w f h.objs.size)) (fun fl s' => Q (retOf fl) s') ⟨h1, g, d, t1 + 1, o⟩) :
    W prog w A (call (.ref f) args) Q ⟨h, g, d, t + 1, o⟩ := by
  subst hn hv
  exact enter gg hg D hroom hlen hbind k

/-- a global name of the text -/
theorem gload {x : Str} {pos : Pos} {v : Value} {Q : Value → Shared → Prop} (gg : GG w G mg mb) (hg : Glob G h) (e : nsIn (KK w.params) mainGlobals x = some (some v)) (k : Q v ⟨h, g, d, t, o⟩)
    (hx : env.kindOf x = some .globalImplicit := by kernel_rfl) (hk : env.scope.kind = .function := by kernel_rfl) (hgl : env.globals = mainGlobals := by kernel_rfl) (hd : (x == ("__debug__" : Str)) = false := by kernel_rfl) :
    W prog w A (eval (.Name x pos) env) Q ⟨h, g, d, t, o⟩ :=
  .of (Calls.Name_function_global hk hx (Calls.loadGlobal_global (env := env) (hgl ▸ gg.g.keeps hg.keep) (mg_of gg.X gg.g e) k) hd)
theorem bload {x : Str} {pos : Pos} {v : Value} {Q : Value → Shared → Prop} (gg : GG w G mg mb) (hg : Glob G h) (e : nsIn (KK w.params) mainGlobals x = some none ∧ bootBuiltins x = some v ∧ x ≠ "__name__") (k : Q v ⟨h, g, d, t, o⟩)
    (hx : env.kindOf x = some .globalImplicit := by kernel_rfl) (hk : env.scope.kind = .function := by kernel_rfl) (hgl : env.globals = mainGlobals := by kernel_rfl) (hbl : env.builtins = builtinsNs := by kernel_rfl) (hd : (x == ("__debug__" : Str)) = false := by kernel_rfl) :
    W prog w A (eval (.Name x pos) env) Q ⟨h, g, d, t, o⟩ :=
  .of (Calls.Name_function_global hk hx (Calls.loadGlobal_builtin (env := env) (hgl ▸ gg.g.keeps hg.keep) (mg_none_of gg.X gg.g e.1) (hbl ▸ gg.b.keeps hg.keep) ((gg.bi x e.2.2).trans e.2.1) k) hd)
end


@[reducible] def SeqK (prog : Program) (w : World) (A : Around) (rest : List Stmt) (env : Env) (Q : Flow → Shared → Prop) (f : Flow) (s' : Shared) : Prop := match f with
  | .next => W prog w A (execs rest env) Q s'
  | f => Q f s'
@[reducible] def NextK {α : Type} (Q : Flow → Shared → Prop) (_ : α) (s : Shared) : Prop := Q .next s
@[reducible] def AsgK (prog : Program) (w : World) (A : Around) (env : Env) (x : Str) (Q : Flow → Shared → Prop) (v : Value) (s : Shared) : Prop := W prog w A (storeName env x v) (NextK Q) s
@[reducible] def RetK (Q : Flow → Shared → Prop) (v : Value) (s : Shared) : Prop := Q (.ret v) s
@[reducible] def IfK (prog : Program) (w : World) (A : Around) (body orelse : List Stmt) (env : Env) (Q : Flow → Shared → Prop) (b : Bool) (s : Shared) : Prop := if b = true then W prog w A (execs body env) Q s else W prog w A (execs orelse env) Q s
@[reducible] def Bin2 (prog : Program) (w : World) (A : Around) (op : Operator) (R : Value → Shared → Prop) (a b : Value) (s : Shared) : Prop := W prog w A (binaryOp op a b) R s
@[reducible] def Bin1 (prog : Program) (w : World) (A : Around) (op : Operator) (r : Expr) (env : Env) (R : Value → Shared → Prop) (a : Value) (s : Shared) : Prop := W prog w A (eval r env) (Bin2 prog w A op R a) s
@[reducible] def Cmp2 (prog : Program) (w : World) (A : Around) (op : CmpOp) (R : Value → Shared → Prop) (a b : Value) (s : Shared) : Prop := W prog w A (compareOp op a b) R s
@[reducible] def Cmp1 (prog : Program) (w : World) (A : Around) (op : CmpOp) (r : Expr) (env : Env) (R : Value → Shared → Prop) (a : Value) (s : Shared) : Prop := W prog w A (eval r env) (Cmp2 prog w A op R a) s
@[reducible] def Tru (prog : Program) (w : World) (A : Around) (R : Bool → Shared → Prop) (c : Value) (s : Shared) : Prop := W prog w A (truthy c) R s
@[reducible] def Arg2 (Q : List Value → Shared → Prop) (v : Value) (vs : List Value) (s : Shared) : Prop := Q (v :: vs) s
@[reducible] def Arg1 (prog : Program) (w : World) (A : Around) (pos : Pos) (rest : List Expr) (env : Env) (Q : List Value → Shared → Prop) (v : Value) (s : Shared) : Prop := W prog w A (spliced (backTo pos (starEach rest env))) (Arg2 Q v) s
@[reducible] def TupK (prog : Program) (w : World) (A : Around) (R : Value → Shared → Prop) (vs : List Value) (s : Shared) : Prop := W prog w A (newTuple vs) R s
@[reducible] def LisK (prog : Program) (w : World) (A : Around) (R : Value → Shared → Prop) (vs : List Value) (s : Shared) : Prop := W prog w A (newList vs) R s
@[reducible] def CalK (prog : Program) (w : World) (A : Around) (pos : Pos) (args : List Expr) (env : Env) (R : Value → Shared → Prop) (f : Value) (s : Shared) : Prop := W prog w A (callWith pos f [] (backTo pos (starEach args env)) []) R s
@[reducible] def BuiK (prog : Program) (w : World) (A : Around) (id : String) (R : Value → Shared → Prop) (vs : List Value) (s : Shared) : Prop := W prog w A (call (.builtin id) vs) R s
@[reducible] def TypK (prog : Program) (w : World) (A : Around) (T : String) (R : Value → Shared → Prop) (vs : List Value) (s : Shared) : Prop := W prog w A (call (.type T) vs) R s

section
variable {prog : Program} {w : World} {A : Around} {s : Shared} {env : Env} {Q : Flow → Shared → Prop} {R : Value → Shared → Prop} {Rb : Bool → Shared → Prop}
theorem xCons {st : Stmt} {rest : List Stmt} (h : W prog w A (exec st env) (SeqK prog w A rest env Q) s) : W prog w A (execs (st :: rest) env) Q s :=
  .of (wpAny_execs_cons (wpAny_mono h.out (fun f s' q => by cases f <;> first | exact W.out q | exact q) fun _ _ q => q))
theorem xNil (h : Q .next s) : W prog w A (execs [] env) Q s := .of (wpAny_execs_nil h)
theorem xAssign {x : Str} {pos' pos : Pos} {value : Expr} (h : W prog w A (eval value env) (AsgK prog w A env x Q) s)
    (hs : swapsWith value (some (.Name x pos')) pos.line env = pure false := by kernel_rfl) : W prog w A (exec (.Assign [.Name x pos'] value pos) env) Q s :=
  .of (wpAny_Assign_Name (wpAny_mono h.out (fun _ _ q => W.out q) fun _ _ q => q) hs)
theorem xReturn {e : Expr} {pos : Pos} (h : W prog w A (eval e env) (RetK Q) s) : W prog w A (exec (.Return (some e) pos) env) Q s := .of (wpAny_Return_some h.out)
theorem xReturn0 {pos : Pos} (h : Q (.ret .none) s) : W prog w A (exec (.Return none pos) env) Q s := .of (wpAny_Return_none h)
theorem xIf {test : Expr} {body orelse : List Stmt} {pos : Pos} (h : W prog w A (isTrue test env (eval test env)) (IfK prog w A body orelse env Q) s) :
    W prog w A (exec (.If test body orelse pos) env) Q s :=
  .of (wpAny_If (wpAny_mono h.out (fun b s' q => by cases b <;> simp [IfK] at q ⊢ <;> exact q.out) fun _ _ q => q))
theorem xBin {l r : Expr} {op : Operator} {pos : Pos} (h : W prog w A (eval l env) (Bin1 prog w A op r env R) s) : W prog w A (eval (.BinOp l op r pos) env) R s :=
  .of (wpAny_BinOp (wpAny_mono h.out (fun _ _ q => wpAny_mono (W.out q) (fun _ _ q => W.out q) fun _ _ q => q) fun _ _ q => q))
theorem xCmp {l r : Expr} {op : CmpOp} {pos : Pos} (h : W prog w A (eval l env) (Cmp1 prog w A op r env R) s) (hm : behindInMarks op r = false := by kernel_rfl) : W prog w A (eval (.Compare l [op] [r] pos) env) R s :=
  .of (wpAny_Compare1 (wpAny_mono h.out (fun _ _ q => wpAny_mono (W.out q) (fun _ _ q => W.out q) fun _ _ q => q) fun _ _ q => q) hm)
theorem xTest {l r : Expr} {op : CmpOp} {pos : Pos} {whole : Sem Value} (h : W prog w A (eval l env) (Cmp1 prog w A op r env (Tru prog w A Rb)) s) (hm : behindInMarks op r = false := by kernel_rfl) :
    W prog w A (isTrue (.Compare l [op] [r] pos) env whole) Rb s :=
  .of (wpAny_isTrue_Compare1 (wpAny_mono h.out (fun _ _ q => wpAny_mono (W.out q) (fun _ _ q => wpAny_mono (W.out q) (fun _ _ q => W.out q) fun _ _ q => q) fun _ _ q => q) fun _ _ q => q) hm)
theorem xArg {e : Expr} {rest : List Expr} {pos : Pos} {Q : List Value → Shared → Prop} (h : W prog w A (eval e env) (Arg1 prog w A pos rest env Q) s)
    (he : starEach (e :: rest) env = (false, eval e env) :: starEach rest env := by kernel_rfl) : W prog w A (spliced (backTo pos (starEach (e :: rest) env))) Q s :=
  .of (args_cons (wpAny_mono h.out (fun _ _ q => W.out q) fun _ _ q => q) he)
theorem xArgs {pos : Pos} {Q : List Value → Shared → Prop} (h : Q [] s) : W prog w A (spliced (backTo pos (starEach [] env))) Q s := .of (args_nil h)
theorem xTuple {elts : List Expr} {k : Nat} {pos : Pos} (h : W prog w A (spliced (backTo pos (starEach elts env))) (TupK prog w A R) s) : W prog w A (eval (.Tuple elts k pos) env) R s :=
  .of (Tuple_ (wpAny_mono h.out (fun _ _ q => W.out q) fun _ _ q => q))
theorem xList {elts : List Expr} {pos : Pos} (h : W prog w A (spliced (backTo pos (starEach elts env))) (LisK prog w A R) s) : W prog w A (eval (.List elts pos) env) R s :=
  .of (List_ (wpAny_mono h.out (fun _ _ q => W.out q) fun _ _ q => q))
theorem xCall {func : Expr} {args : List Expr} {pos : Pos} (h : W prog w A (eval func env) (CalK prog w A pos args env R) s)
    (he : eval (.Call func args [] pos) env = (do callWith pos (← eval func env) [] (backTo pos (starEach args env)) (backToKw pos (keywordEach [] env))) := by kernel_rfl) : W prog w A (eval (.Call func args [] pos) env) R s :=
  .of (Call_ (wpAny_mono h.out (fun _ _ q => W.out q) fun _ _ q => q) he)
theorem xBuiltin {pos : Pos} {id : String} {e : Expr} {rest : List Expr} (h : W prog w A (spliced (backTo pos (starEach (e :: rest) env))) (BuiK prog w A id R) s)
    (he : starEach (e :: rest) env = (false, eval e env) :: starEach rest env := by kernel_rfl) (hplain : (backTo pos (starEach rest env)).any (·.1) = false := by kernel_rfl) :
    W prog w A (callWith pos (.builtin id) [] (backTo pos (starEach (e :: rest) env)) []) R s :=
  .of (PyProof.Rows.callWith_builtin1 (wpAny_mono h.out (fun _ _ q => W.out q) fun _ _ q => q) he hplain)
theorem xType {pos : Pos} {T : String} {e : Expr} {rest : List Expr} (h : W prog w A (spliced (backTo pos (starEach (e :: rest) env))) (TypK prog w A T R) s)
    (he : starEach (e :: rest) env = (false, eval e env) :: starEach rest env := by kernel_rfl) (hplain : (backTo pos (starEach rest env)).any (·.1) = false := by kernel_rfl) :
    W prog w A (callWith pos (.type T) [] (backTo pos (starEach (e :: rest) env)) []) R s :=
  .of (PyProof.Rows.callWith_type1 (wpAny_mono h.out (fun _ _ q => W.out q) fun _ _ q => q) he hplain)
theorem xBool {b : Bool} {k : Nat} {pos : Pos} (h : R (.bool b) s) : W prog w A (eval (.Constant (.bool b) k pos) env) R s := .of (wpAny_Constant_bool h)
theorem xNone {k : Nat} {pos : Pos} (h : R .none s) : W prog w A (eval (.Constant .none k pos) env) R s := .of (wpAny_Constant_none h)
end

theorem br_t {b : Bool} {p q : Prop} (h : b = true) (k : p) : if b = true then p else q := by rw [if_pos h]; exact k
theorem br_f {b : Bool} {p q : Prop} (h : b = false) (k : q) : if b = true then p else q := by rw [if_neg (by rw [h]; exact Bool.false_ne_true)]; exact k
theorem br_n {b : Bool} {p q : Prop} (h : ¬ b = true) (k : q) : if b = true then p else q := by rw [if_neg h]; exact k
end Mine
end PartMCall

section PartMOps
open PySem PySem.W PyProof.Rows
set_option autoImplicit false
set_option linter.unusedVariables false
namespace Mine

inductive Vals : List Value → List V → Prop
  | nil : Vals [] []
  | cons (d : V) (t : Tok) {vs : List Value} {ds : List V} : Vals vs ds → Vals (d.val t :: vs) (d :: ds)
theorem Vals.of : ∀ vs : List Value, Vals vs (vs.map V.of)
  | [] => .nil
  | v :: vs => by
    obtain ⟨t, e⟩ := V.of_val v
    have := Vals.cons (V.of v) t (Vals.of vs)
    rw [← e] at this
    exact this
theorem Vals.length : ∀ {vs : List Value} {ds : List V}, Vals vs ds → vs.length = ds.length
  | _, _, .nil => rfl
  | _, _, .cons _ _ h => by simp [h.length]
theorem Vals.get : ∀ {vs : List Value} {ds : List V} {i : Nat} {dd : V}, Vals vs ds → ds[i]? = some dd → ∃ t, vs[i]? = some (dd.val t)
  | _, _, 0, _, .cons d t _, h => by simp at h; subst h; exact ⟨t, rfl⟩
  | _, _, i + 1, _, .cons d t h', h => by simp at h ⊢; exact h'.get h
theorem Vals.ints : ∀ {vs : List Value} {ns : List Int}, Vals vs (ns.map V.int) → IntsAre vs ns
  | _, [], h => by cases h; exact .nil
  | _, n :: ns, h => by
    cases h with
    | cons d t h => exact .cons n t h.ints
theorem Vals.ofInts : ∀ {vs : List Value} {ns : List Int}, IntsAre vs ns → Vals vs (ns.map V.int)
  | _, _, .nil => .nil
  | _, _, .cons n t h => .cons (V.int n) t (Vals.ofInts h)
theorem Vals.append : ∀ {vs ws : List Value} {ds es : List V}, Vals vs ds → Vals ws es → Vals (vs ++ ws) (ds ++ es)
  | _, _, _, _, .nil, h => h
  | _, _, _, _, .cons d t h', h => .cons d t (h'.append h)
theorem Vals.take : ∀ {vs : List Value} {ds : List V} (n : Nat), Vals vs ds → Vals (vs.take n) (ds.take n)
  | _, _, 0, _ => .nil
  | _, _, _ + 1, .nil => .nil
  | _, _, n + 1, .cons d t h => .cons d t (h.take n)
theorem Vals.drop : ∀ {vs : List Value} {ds : List V} (n : Nat), Vals vs ds → Vals (vs.drop n) (ds.drop n)
  | _, _, 0, h => h
  | _, _, _ + 1, .nil => .nil
  | _, _, n + 1, .cons d t h => h.drop n

def Tup (ds : List V) (o : Obj) : Prop := ∃ vs n, o = ⟨.type "tuple", none, .seq vs n, #[]⟩ ∧ Vals vs.toList ds
def Lst (ds : List V) (o : Obj) : Prop := ∃ vs n, o = ⟨.type "list", none, .seq vs n, #[]⟩ ∧ Vals vs.toList ds
/-- a list to be read -/
def LstR (ds : List V) (o : Obj) : Prop := o.cls = .type "list" ∧ ∃ vs n, o.data = .seq vs n ∧ Vals vs.toList ds
def Cel (d : V) (o : Obj) : Prop := ∃ t, o.data = .cell (some (d.val t))
def Cel0 (o : Obj) : Prop := ∃ v, o.data = .cell v
def Is (x : Obj) (o : Obj) : Prop := o = x

def Has (h : Heap) (a : Addr) (P : Obj → Prop) : Prop := ∃ o, h.get? a = some o ∧ P o
theorem Has.kept {G h h' : Heap} {a : Addr} {P : Obj → Prop} (x : Has h a P) (k : Kept h h') (n : a ≠ 51 ∧ a ≠ 58) : Has h' a P := let ⟨o, e, p⟩ := x; ⟨o, k _ _ e n.1 n.2, p⟩

theorem Lst.nc {ds : List V} (o : Obj) (x : Lst ds o) : ¬ Codeish o := by
  obtain ⟨vs, n, rfl, _⟩ := x
  rintro ⟨vs, q, t, hd, _⟩
  cases hd
theorem Cel.nc {d : V} (o : Obj) (x : Cel d o) : ¬ Codeish o := by
  obtain ⟨t, e⟩ := x
  rintro ⟨vs, q, t, hd, _⟩
  rw [e] at hd; cases hd
theorem Cel0.nc (o : Obj) (x : Cel0 o) : ¬ Codeish o := by
  obtain ⟨t, e⟩ := x
  rintro ⟨vs, q, t, hd, _⟩
  rw [e] at hd; cases hd
theorem Has.list {h : Heap} {a : Addr} {ds : List V} (x : Has h a (Lst ds)) : ∃ vs n, h.get? a = some ⟨.type "list", none, .seq vs n, #[]⟩ ∧ Vals vs.toList ds := by
  obtain ⟨o, e, vs, n, rfl, v⟩ := x
  exact ⟨vs, n, e, v⟩
theorem Has.isList {h : Heap} {a : Addr} {ds : List V} (x : Has h a (Lst ds)) : ∃ vs : List Value, h.IsList a vs.toArray ∧ Vals vs ds := by
  obtain ⟨vs, n, e, v⟩ := x.list
  exact ⟨vs.toList, ⟨_, e, rfl, n, by simp⟩, v⟩
theorem Lst.r {ds : List V} {o : Obj} (x : Lst ds o) : LstR ds o := by obtain ⟨vs, n, rfl, v⟩ := x; exact ⟨rfl, vs, n, rfl, v⟩
theorem Has.r {h : Heap} {a : Addr} {ds : List V} (x : Has h a (Lst ds)) : Has h a (LstR ds) := let ⟨o, e, p⟩ := x; ⟨o, e, p.r⟩
theorem LstR.nc {ds : List V} (o : Obj) (x : LstR ds o) : ¬ Codeish o := by
  obtain ⟨_, vs, n, e, _⟩ := x
  rintro ⟨vs, q, t, hd, _⟩
  rw [e] at hd; cases hd
theorem Has.isListR {h : Heap} {a : Addr} {ds : List V} (x : Has h a (LstR ds)) : ∃ vs : List Value, h.IsList a vs.toArray ∧ Vals vs ds := by
  obtain ⟨o, e, c, vs, n, hd, v⟩ := x
  exact ⟨vs.toList, ⟨o, e, c, n, by rw [hd]⟩, v⟩
theorem Has.isTuple {h : Heap} {a : Addr} {ds : List V} (x : Has h a (Tup ds)) : ∃ vs : List Value, h.IsTuple a vs.toArray ∧ Vals vs ds := by
  obtain ⟨o, e, vs, n, rfl, v⟩ := x
  exact ⟨vs.toList, ⟨_, e, rfl, n, by simp⟩, v⟩

section
variable {G B h h' : Heap} {env : Env} {names : List Str} {vals : List V} {led : Led}
theorem Sta.has {i : Nat} {a : Addr} {P : Obj → Prop} (I : Sta G B env names vals led h) (hi : nth led i = some (a, P)) : Has h a P := I.get hi
theorem Sta.fresh {i : Nat} {a : Addr} {P : Obj → Prop} (I : Sta G B env names vals led h) (hi : nth led i = some (a, P)) : B.get? a = none := (I.leds _ (nth_mem hi)).1
theorem Sta.old {a : Addr} {P : Obj → Prop} (I : Sta G B env names vals led h) (x : Has B a P) (n : a ≠ 51 ∧ a ≠ 58) : Has h a P := let ⟨o, e, p⟩ := x; ⟨o, I.keep _ _ e n.1 n.2, p⟩
theorem Sta.n5 {i : Nat} {a : Addr} {P : Obj → Prop} (I : Sta G B env names vals led h) (hi : nth led i = some (a, P)) : a ≠ 51 ∧ a ≠ 58 := I.gB.free (I.fresh hi)
/-- forget the ledger's rest -/
theorem Sta.sub {led' : Led} (I : Sta G B env names vals led h) (hs : led'.Sublist led) : Sta G B env names vals led' h :=
  { I with leds := fun p hp => I.leds p (hs.subset hp), dist := (hs.map _).nodup I.dist }
theorem Sta.revals {vals' : List V} (I : Sta G B env names vals led h) (hs : ∀ i d, nth vals' i = some d → d ≠ .unb → nth vals i = some d) : Sta G B env names vals' led h :=
  { I with loc := let ⟨m, n, hm⟩ := I.loc; ⟨m, n, fun i x d h1 h2 h3 => hm i x d h1 (hs i d h2 h3) h3⟩ }
end

section
variable {prog : Program} {w : World} {A : Around} {G B h : Heap} {g : Array GenState} {d : Drawn} {t : Nat} {o : OsState} {env : Env} {names : List Str} {vals : List V} {led : Led} {mg mb : Str → Option Value}
variable {a b : Int} {x y : UInt64} {p q : Str} {ta tb : Tok} {Q : Value → Shared → Prop}

theorem cInt {i : Int} {k : Nat} {pos : Pos} (c : ∀ u t', Q (.int i u) ⟨h, g, d, t' + 1, o⟩) : W prog w A (eval (.Constant (.int i) k pos) env) Q ⟨h, g, d, t + 1, o⟩ := W.of (wpAny_Constant_int (c _ _))
theorem cFloat {i : UInt64} {k : Nat} {pos : Pos} (c : ∀ u t', Q (.float i (u + 1)) ⟨h, g, d, t' + 1, o⟩) : W prog w A (eval (.Constant (.float i) k pos) env) Q ⟨h, g, d, t + 1, o⟩ := W.of (AutoFloatOps.wpAny_Constant_float (c _ _))
theorem cStr {i : Str} {k : Nat} {pos : Pos} (c : ∀ u t', Q (.str i u) ⟨h, g, d, t' + 1, o⟩) : W prog w A (eval (.Constant (.str i) k pos) env) Q ⟨h, g, d, t + 1, o⟩ := W.of (wpAny_Constant_str (c _ _))

theorem iAdd (c : ∀ u t', Q (.int (a + b) u) ⟨h, g, d, t' + 1, o⟩) : W prog w A (binaryOp .Add (.int a ta) (.int b tb)) Q ⟨h, g, d, t + 1, o⟩ := W.of (P.add_int (c _ _))
theorem iSub (c : ∀ u t', Q (.int (a - b) u) ⟨h, g, d, t' + 1, o⟩) : W prog w A (binaryOp .Sub (.int a ta) (.int b tb)) Q ⟨h, g, d, t + 1, o⟩ := W.of (P.sub_int (c _ _))
theorem iIAdd (c : ∀ u t', Q (.int (a + b) u) ⟨h, g, d, t' + 1, o⟩) : W prog w A (inplaceOp .Add (.int a ta) (.int b tb)) Q ⟨h, g, d, t + 1, o⟩ := W.of (P.iadd_int (c _ _))
theorem iISub (c : ∀ u t', Q (.int (a - b) u) ⟨h, g, d, t' + 1, o⟩) : W prog w A (inplaceOp .Sub (.int a ta) (.int b tb)) Q ⟨h, g, d, t + 1, o⟩ := W.of (P.isub_int (c _ _))
theorem iMul (hm : IntMulOk a b) (c : ∀ u t', Q (.int (a * b) u) ⟨h, g, d, t' + 1, o⟩) : W prog w A (binaryOp .Mult (.int a ta) (.int b tb)) Q ⟨h, g, d, t + 1, o⟩ := W.of (P.mul_int (c _ _) hm)
theorem iDiv (hb : b ≠ 0) (hp : Builtin.divisionGoesByPylong a b = false) (c : ∀ u t', Q (.int (a.fdiv b) u) ⟨h, g, d, t' + 1, o⟩) : W prog w A (binaryOp .FloorDiv (.int a ta) (.int b tb)) Q ⟨h, g, d, t + 1, o⟩ := W.of (PyProof.Rows.floordiv_int hb (c _ _) (.inl hp))
theorem iMod (hh : A.handled = none) (hb : b ≠ 0) (c : ∀ u t', Q (.int (a.fmod b) u) ⟨h, g, d, t' + 1, o⟩) : W prog w A (binaryOp .Mod (.int a ta) (.int b tb)) Q ⟨h, g, d, t + 1, o⟩ := W.of (PyProof.Rows.mod_int_or hh (fun e => absurd e hb) (fun _ => c _ _))
theorem iEq (c : Q (.bool (a == b)) ⟨h, g, d, t, o⟩) : W prog w A (compareOp .Eq (.int a ta) (.int b tb)) Q ⟨h, g, d, t, o⟩ := W.of (P.eq_int c)
theorem iNe (c : Q (.bool (a != b)) ⟨h, g, d, t, o⟩) : W prog w A (compareOp .NotEq (.int a ta) (.int b tb)) Q ⟨h, g, d, t, o⟩ := W.of (P.ne_int c)
theorem iLt (c : Q (.bool (decide (a < b))) ⟨h, g, d, t, o⟩) : W prog w A (compareOp .Lt (.int a ta) (.int b tb)) Q ⟨h, g, d, t, o⟩ := W.of (P.lt_int c)
theorem iLe (c : Q (.bool (decide (a ≤ b))) ⟨h, g, d, t, o⟩) : W prog w A (compareOp .LtE (.int a ta) (.int b tb)) Q ⟨h, g, d, t, o⟩ := W.of (P.le_int c)
theorem iNeg (c : ∀ u t', Q (.int (-a) u) ⟨h, g, d, t' + 1, o⟩) : W prog w A (unaryOp .USub (.int a ta)) Q ⟨h, g, d, t + 1, o⟩ := W.of (P.neg_int (c _ _))
theorem iAbs (c : ∀ u t', Q (.int (if a < 0 then -a else a) u) ⟨h, g, d, t' + 1, o⟩) : W prog w A (call (.builtin "abs") [.int a ta]) Q ⟨h, g, d, t + 1, o⟩ := W.tk (W.of (PyProof.Rows.call_abs_int (fun _ tk hle => by obtain ⟨m, rfl⟩ := pos_ex hle; exact c _ _)))
theorem iXor (c : ∀ u t', Q (.int (Builtin.bitXor a b) u) ⟨h, g, d, t' + 1, o⟩) : W prog w A (binaryOp .BitXor (.int a ta) (.int b tb)) Q ⟨h, g, d, t + 1, o⟩ := W.of (xor_int (c _ _))
theorem iAnd (c : ∀ u t', Q (.int (Builtin.bitAnd a b) u) ⟨h, g, d, t' + 1, o⟩) : W prog w A (binaryOp .BitAnd (.int a ta) (.int b tb)) Q ⟨h, g, d, t + 1, o⟩ := W.of (and_int (c _ _))

theorem fAdd (c : ∀ u t', Q (.float (Float64.add x y) (u + 1)) ⟨h, g, d, t' + 1, o⟩) : W prog w A (binaryOp .Add (.float x ta) (.float y tb)) Q ⟨h, g, d, t + 1, o⟩ := W.of (add_float (c _ _))
theorem fSub (c : ∀ u t', Q (.float (Float64.sub x y) (u + 1)) ⟨h, g, d, t' + 1, o⟩) : W prog w A (binaryOp .Sub (.float x ta) (.float y tb)) Q ⟨h, g, d, t + 1, o⟩ := W.of (sub_float (c _ _))
theorem fMul (c : ∀ u t', Q (.float (Float64.mul x y) (u + 1)) ⟨h, g, d, t' + 1, o⟩) : W prog w A (binaryOp .Mult (.float x ta) (.float y tb)) Q ⟨h, g, d, t + 1, o⟩ := W.of (mul_float (c _ _))
theorem fDiv (hz : Float64.isZero y = false) (c : ∀ u t', Q (.float (Float64.div x y) (u + 1)) ⟨h, g, d, t' + 1, o⟩) : W prog w A (binaryOp .Div (.float x ta) (.float y tb)) Q ⟨h, g, d, t + 1, o⟩ := W.of (by
  refine AutoFloatOpsIf.truediv ?_
  rw [if_neg (by rw [hz]; exact Bool.false_ne_true)]
  exact c _ _)
theorem fMod (hz : Float64.isZero y = false) (c : ∀ u t', Q (.float (Float64.divmod x y).2 (u + 1)) ⟨h, g, d, t' + 1, o⟩) : W prog w A (binaryOp .Mod (.float x ta) (.float y tb)) Q ⟨h, g, d, t + 1, o⟩ := W.of (by
  refine AutoFloatOpsIf.mod ?_
  rw [if_neg (by rw [hz]; exact Bool.false_ne_true)]
  exact c _ _)
theorem fEq (c : Q (.bool (Float64.cmp x y == some Ordering.eq)) ⟨h, g, d, t, o⟩) : W prog w A (compareOp .Eq (.float x ta) (.float y tb)) Q ⟨h, g, d, t, o⟩ := W.of (AutoFloatOps.eq_0 c)
theorem fLe (c : Q (.bool (Float64.cmp x y == some Ordering.lt || Float64.cmp x y == some Ordering.eq)) ⟨h, g, d, t, o⟩) : W prog w A (compareOp .LtE (.float x ta) (.float y tb)) Q ⟨h, g, d, t, o⟩ := W.of (AutoFloatOps.le_0 c)
theorem fiSub (hf : b.natAbs < 2 ^ 1023) (c : ∀ u t', Q (.float (Float64.sub x (Float64.ofInt b)) (u + 1)) ⟨h, g, d, t' + 1, o⟩) : W prog w A (binaryOp .Sub (.float x ta) (.int b tb)) Q ⟨h, g, d, t + 1, o⟩ := W.of (sub_fi_fits hf (c _ _))
theorem fiMul (hf : b.natAbs < 2 ^ 1023) (c : ∀ u t', Q (.float (Float64.mul x (Float64.ofInt b)) (u + 1)) ⟨h, g, d, t' + 1, o⟩) : W prog w A (binaryOp .Mult (.float x ta) (.int b tb)) Q ⟨h, g, d, t + 1, o⟩ := W.of (mul_fi_fits hf (c _ _))
theorem iiDiv (hh : A.handled = none) (hf : a.natAbs < 2 ^ 1023) (hb : b ≠ 0) (c : ∀ u t', Q (.float (Float64.ofFrac (decide (a < 0) != decide (b < 0)) a.natAbs b.natAbs) (u + 1)) ⟨h, g, d, t' + 1, o⟩) : W prog w A (binaryOp .Div (.int a ta) (.int b tb)) Q ⟨h, g, d, t + 1, o⟩ := W.of (PySem.Flt.div_ii_fits hh hf (fun e => absurd e hb) (fun _ _ => c _ _))
theorem fInt (hh : A.handled = none) (hf : Float64.isFinite x = true) (c : ∀ u t', Q (.int (PySem.Flt.toInt Float64.truncOf x) u) ⟨h, g, d, t' + 1, o⟩) : W prog w A (call (.type "int") [.float x ta]) Q ⟨h, g, d, t + 1, o⟩ := W.of (PySem.Flt.call_int_float3 hh (fun e => by
    have := hf; unfold Float64.isFinite at this; unfold Float64.isNaN at e; cases hd : Float64.decode x <;> simp [hd] at this e)
    (fun e => by have := hf; unfold Float64.isFinite at this; unfold Float64.isInf at e; cases hd : Float64.decode x <;> simp [hd] at this e) (fun _ => c _ _))

theorem sEq (c : Q (.bool (p == q)) ⟨h, g, d, t, o⟩) : W prog w A (compareOp .Eq (.str p ta) (.str q tb)) Q ⟨h, g, d, t, o⟩ := W.of (PyProof.Rows.eq_str c)

theorem tBool {b : Bool} {Q : Bool → Shared → Prop} (c : Q b ⟨h, g, d, t, o⟩) : W prog w A (truthy (.bool b)) Q ⟨h, g, d, t, o⟩ := W.of (wpAny_truthy_bool c)
theorem tInt {Q : Bool → Shared → Prop} (c : Q (a != 0) ⟨h, g, d, t, o⟩) : W prog w A (truthy (.int a ta)) Q ⟨h, g, d, t, o⟩ := W.of (P.truthy_int c)

theorem mkTuple {vs : List Value} (I : Sta G B env names vals led h) (hsz : Nat.ble vs.length 4096 = true) (c : ∀ r h', Sta G B env names vals ((r, Tup (vs.map V.of)) :: led) h' → Q (.ref r) ⟨h', g, d, t, o⟩) :
    W prog w A (newTuple vs) Q ⟨h, g, d, t, o⟩ := W.of (wpAny_newTuple (c _ _ (I.pushK (fun _ _ e => Heap.get?_push_of_some _ e) (none_size h) (Heap.get?_push_size _ rfl) ⟨_, _, rfl, by simpa using Vals.of vs⟩)) (Nat.le_trans (Nat.le_of_ble_eq_true hsz) (by decide)))
theorem mkList {vs : List Value} (I : Sta G B env names vals led h) (hsz : Nat.ble vs.length 4096 = true) (c : ∀ r h', Sta G B env names vals ((r, Lst (vs.map V.of)) :: led) h' → Q (.ref r) ⟨h', g, d, t, o⟩) :
    W prog w A (newList vs) Q ⟨h, g, d, t, o⟩ := W.of (wpAny_newList (c _ _ (I.pushK (fun _ _ e => Heap.get?_push_of_some _ e) (none_size h) (Heap.get?_push_size _ rfl) ⟨_, _, rfl, by simpa using Vals.of vs⟩)) (Nat.le_trans (Nat.le_of_ble_eq_true hsz) (by decide)))
end
end Mine
end PartMOps

section PartMNames
open PySem PySem.W PyProof.Rows
set_option autoImplicit false
set_option linter.unusedVariables false
namespace Mine
/- global names of the text -/
theorem n_rgb_to_hls (P : Params) : nsIn (KK P) mainGlobals (Str.ofString "rgb_to_hls") = some (some (.ref 21)) := by kernel_rfl
theorem n_rgb_to_hsv (P : Params) : nsIn (KK P) mainGlobals (Str.ofString "rgb_to_hsv") = some (some (.ref 28)) := by kernel_rfl
theorem n_hsv_to_rgb (P : Params) : nsIn (KK P) mainGlobals (Str.ofString "hsv_to_rgb") = some (some (.ref 35)) := by kernel_rfl
theorem n_div2n1n (P : Params) : nsIn (KK P) mainGlobals (Str.ofString "_div2n1n") = some (some (.ref 42)) := by kernel_rfl
theorem n_div3n2n (P : Params) : nsIn (KK P) mainGlobals (Str.ofString "_div3n2n") = some (some (.ref 49)) := by kernel_rfl
theorem n_int2digits (P : Params) : nsIn (KK P) mainGlobals (Str.ofString "_int2digits") = some (some (.ref 56)) := by kernel_rfl
theorem n_digits2int (P : Params) : nsIn (KK P) mainGlobals (Str.ofString "_digits2int") = some (some (.ref 63)) := by kernel_rfl
theorem n_divmod_pos (P : Params) : nsIn (KK P) mainGlobals (Str.ofString "_divmod_pos") = some (some (.ref 70)) := by kernel_rfl
theorem n_int_divmod (P : Params) : nsIn (KK P) mainGlobals (Str.ofString "int_divmod") = some (some (.ref 77)) := by kernel_rfl
theorem n_strcoll (P : Params) : nsIn (KK P) mainGlobals (Str.ofString "_strcoll") = some (some (.ref 84)) := by kernel_rfl
theorem n_grouping_intervals (P : Params) : nsIn (KK P) mainGlobals (Str.ofString "_grouping_intervals") = some (some (.ref 91)) := by kernel_rfl
theorem n_law_cells (P : Params) : nsIn (KK P) mainGlobals (Str.ofString "_law_cells") = some (some (.ref 98)) := by kernel_rfl
theorem n_law_images (P : Params) : nsIn (KK P) mainGlobals (Str.ofString "_law_images") = some (some (.ref 105)) := by kernel_rfl
theorem n_law_due (P : Params) : nsIn (KK P) mainGlobals (Str.ofString "_law_due") = some (some (.ref 110)) := by kernel_rfl
theorem n_law (P : Params) : nsIn (KK P) mainGlobals (Str.ofString "law") = some (some (.ref 115)) := by kernel_rfl
theorem n_CHAR_MAX (P : Params) : nsIn (KK P) mainGlobals (Str.ofString "CHAR_MAX") = some (some (.int 127 332)) := by kernel_rfl
theorem n_DIV_LIMIT (P : Params) : nsIn (KK P) mainGlobals (Str.ofString "_DIV_LIMIT") = some (some (.int 4000 242)) := by kernel_rfl
theorem b_max (P : Params) : nsIn (KK P) mainGlobals (Str.ofString "max") = some none ∧ bootBuiltins (Str.ofString "max") = some (.builtin "max") ∧ Str.ofString "max" ≠ "__name__" := ⟨by kernel_rfl, by decide +kernel, by decide +kernel⟩
theorem b_min (P : Params) : nsIn (KK P) mainGlobals (Str.ofString "min") = some none ∧ bootBuiltins (Str.ofString "min") = some (.builtin "min") ∧ Str.ofString "min" ≠ "__name__" := ⟨by kernel_rfl, by decide +kernel, by decide +kernel⟩
theorem b_int (P : Params) : nsIn (KK P) mainGlobals (Str.ofString "int") = some none ∧ bootBuiltins (Str.ofString "int") = some (.type "int") ∧ Str.ofString "int" ≠ "__name__" := ⟨by kernel_rfl, by decide +kernel, by decide +kernel⟩
theorem b_divmod (P : Params) : nsIn (KK P) mainGlobals (Str.ofString "divmod") = some none ∧ bootBuiltins (Str.ofString "divmod") = some (.builtin "divmod") ∧ Str.ofString "divmod" ≠ "__name__" := ⟨by kernel_rfl, by decide +kernel, by decide +kernel⟩
theorem b_len (P : Params) : nsIn (KK P) mainGlobals (Str.ofString "len") = some none ∧ bootBuiltins (Str.ofString "len") = some (.builtin "len") ∧ Str.ofString "len" ≠ "__name__" := ⟨by kernel_rfl, by decide +kernel, by decide +kernel⟩
theorem b_reversed (P : Params) : nsIn (KK P) mainGlobals (Str.ofString "reversed") = some none ∧ bootBuiltins (Str.ofString "reversed") = some (.type "reversed") ∧ Str.ofString "reversed" ≠ "__name__" := ⟨by kernel_rfl, by decide +kernel, by decide +kernel⟩
theorem b_enumerate (P : Params) : nsIn (KK P) mainGlobals (Str.ofString "enumerate") = some none ∧ bootBuiltins (Str.ofString "enumerate") = some (.type "enumerate") ∧ Str.ofString "enumerate" ≠ "__name__" := ⟨by kernel_rfl, by decide +kernel, by decide +kernel⟩
theorem b_range (P : Params) : nsIn (KK P) mainGlobals (Str.ofString "range") = some none ∧ bootBuiltins (Str.ofString "range") = some (.type "range") ∧ Str.ofString "range" ≠ "__name__" := ⟨by kernel_rfl, by decide +kernel, by decide +kernel⟩
theorem b_sum (P : Params) : nsIn (KK P) mainGlobals (Str.ofString "sum") = some none ∧ bootBuiltins (Str.ofString "sum") = some (.builtin "sum") ∧ Str.ofString "sum" ≠ "__name__" := ⟨by kernel_rfl, by decide +kernel, by decide +kernel⟩
theorem b_sorted (P : Params) : nsIn (KK P) mainGlobals (Str.ofString "sorted") = some none ∧ bootBuiltins (Str.ofString "sorted") = some (.builtin "sorted") ∧ Str.ofString "sorted" ≠ "__name__" := ⟨by kernel_rfl, by decide +kernel, by decide +kernel⟩
theorem b_set (P : Params) : nsIn (KK P) mainGlobals (Str.ofString "set") = some none ∧ bootBuiltins (Str.ofString "set") = some (.type "set") ∧ Str.ofString "set" ≠ "__name__" := ⟨by kernel_rfl, by decide +kernel, by decide +kernel⟩
theorem b_abs (P : Params) : nsIn (KK P) mainGlobals (Str.ofString "abs") = some none ∧ bootBuiltins (Str.ofString "abs") = some (.builtin "abs") ∧ Str.ofString "abs" ≠ "__name__" := ⟨by kernel_rfl, by decide +kernel, by decide +kernel⟩
theorem b_round (P : Params) : nsIn (KK P) mainGlobals (Str.ofString "round") = some none ∧ bootBuiltins (Str.ofString "round") = some (.builtin "round") ∧ Str.ofString "round" ≠ "__name__" := ⟨by kernel_rfl, by decide +kernel, by decide +kernel⟩
theorem b_list (P : Params) : nsIn (KK P) mainGlobals (Str.ofString "list") = some none ∧ bootBuiltins (Str.ofString "list") = some (.type "list") ∧ Str.ofString "list" ≠ "__name__" := ⟨by kernel_rfl, by decide +kernel, by decide +kernel⟩

def fmax2 (x y : UInt64) : UInt64 := if (Float64.cmp x y == some .lt) = true then y else x
def fmin2 (x y : UInt64) : UInt64 := if (Float64.cmp y x == some .lt) = true then y else x
def fmax3 (x y z : UInt64) : UInt64 := fmax2 (fmax2 x y) z
def fmin3 (x y z : UInt64) : UInt64 := fmin2 (fmin2 x y) z
open PySem.Flt

section
variable {prog : Program} {w : World} {A : Around} {h : Heap} {g : Array GenState} {d : Drawn} {t : Nat} {o : OsState}
theorem fMax3 {x y z : UInt64} {tx ty tz : Tok} {Q : Value → Shared → Prop} (hh : A.handled = none) (k : ∀ h' u t', (∀ b o, h.get? b = some o → h'.get? b = some o) → Q (.float (fmax3 x y z) (u + 1)) ⟨h', g, d, t' + 1, o⟩) :
    W prog w A (call (.builtin "max") [.float x (tx + 1), .float y (ty + 1), .float z (tz + 1)]) Q ⟨h, g, d, t + 1, o⟩ := by
  refine W.tk (W.of ?_)
  generalize ha : Value.float x (tx + 1) = a
  generalize hb : Value.float y (ty + 1) = b
  generalize hc : Value.float z (tz + 1) = c
  have hT : (h.push { cls := .type "tuple", data := .seq #[a, b, c] }).IsTuple h.objs.size #[a, b, c] := ⟨_, Heap.get?_push_size _ rfl, rfl, 0, rfl⟩
  refine call_max_three (wpAny_pyIter_tuple hT ?_)
  have hsz : (h.push { cls := .type "tuple", data := .seq #[a, b, c] }).objs.size = h.objs.size + 1 := Heap.size_push ..
  have hnum : ∀ v ∈ #[a, b, c], NumV v := by
    intro v hv
    simp at hv
    rcases hv with rfl | rfl | rfl
    · rw [← ha]; exact .float _ _
    · rw [← hb]; exact .float _ _
    · rw [← hc]; exact .float _ _
  refine ⟨_, [_, h.objs.size], [_], _, _, _, _, rfl, Walks.tuple (A := A.in1) hh _ h.objs.size (by show h.objs.size ≠ (h.push _).objs.size; rw [hsz]; exact Nat.ne_of_lt (Nat.lt_succ_self _)) #[a, b, c],
    ⟨⟨_, Heap.get?_push_size _ rfl, rfl, rfl⟩, hT.push _⟩, fun c hc => ?_, by simp, cmpOf_gt #[a, b, c] hnum, fun v h' tk hP hk => ?_⟩
  · show c < ((h.push _).push _).objs.size
    rw [Heap.size_push, hsz]
    rcases List.mem_cons.mp hc with rfl | hc
    · show (h.push _).objs.size < _
      rw [hsz]; exact Nat.lt_succ_self _
    · rcases List.mem_cons.mp hc with rfl | hc
      · exact Nat.lt_succ_of_lt (Nat.lt_succ_self _)
      · cases hc
  · have hold : ∀ c o, h.get? c = some o → h'.get? c = some o := fun c o e => by
      refine hk c o (fun hm => ?_) (Heap.get?_push_of_some _ (Heap.get?_push_of_some _ e))
      rcases List.mem_cons.mp hm with e1 | hm
      · have h1 := Heap.lt_size e
        have e2 : c = h.objs.size + 1 := e1.trans hsz
        rw [e2] at h1; exact Nat.lt_irrefl _ (Nat.lt_of_succ_lt h1)
      · cases hm
    have hv : ∃ u, v = .float (fmax3 x y z) (u + 1) := by
      subst ha hb hc
      by_cases c1 : (Float64.cmp x y == some .lt) = true
      · by_cases c2 : (Float64.cmp y z == some .lt) = true
        · simp [argBest, ltV, c1, c2] at hP
          exact ⟨tz, by rw [← hP]; simp [fmax3, fmax2, c1, c2]⟩
        · simp [argBest, ltV, c1, c2] at hP
          exact ⟨ty, by rw [← hP]; simp [fmax3, fmax2, c1, c2]⟩
      · by_cases c2 : (Float64.cmp x z == some .lt) = true
        · simp [argBest, ltV, c1, c2] at hP
          exact ⟨tz, by rw [← hP]; simp [fmax3, fmax2, c1, c2]⟩
        · simp [argBest, ltV, c1, c2] at hP
          exact ⟨tx, by rw [← hP]; simp [fmax3, fmax2, c1, c2]⟩
    obtain ⟨u, rfl⟩ := hv
    intro hle
    obtain ⟨m, rfl⟩ := pos_ex hle
    exact k h' u m hold
theorem fMin3 {x y z : UInt64} {tx ty tz : Tok} {Q : Value → Shared → Prop} (hh : A.handled = none) (k : ∀ h' u t', (∀ b o, h.get? b = some o → h'.get? b = some o) → Q (.float (fmin3 x y z) (u + 1)) ⟨h', g, d, t' + 1, o⟩) :
    W prog w A (call (.builtin "min") [.float x (tx + 1), .float y (ty + 1), .float z (tz + 1)]) Q ⟨h, g, d, t + 1, o⟩ := by
  refine W.tk (W.of ?_)
  generalize ha : Value.float x (tx + 1) = a
  generalize hb : Value.float y (ty + 1) = b
  generalize hc : Value.float z (tz + 1) = c
  have hT : (h.push { cls := .type "tuple", data := .seq #[a, b, c] }).IsTuple h.objs.size #[a, b, c] := ⟨_, Heap.get?_push_size _ rfl, rfl, 0, rfl⟩
  refine call_min_three (wpAny_pyIter_tuple hT ?_)
  have hsz : (h.push { cls := .type "tuple", data := .seq #[a, b, c] }).objs.size = h.objs.size + 1 := Heap.size_push ..
  have hnum : ∀ v ∈ #[a, b, c], NumV v := by
    intro v hv
    simp at hv
    rcases hv with rfl | rfl | rfl
    · rw [← ha]; exact .float _ _
    · rw [← hb]; exact .float _ _
    · rw [← hc]; exact .float _ _
  refine ⟨_, [_, h.objs.size], [_], _, _, _, _, rfl, Walks.tuple (A := A.in1) hh _ h.objs.size (by show h.objs.size ≠ (h.push _).objs.size; rw [hsz]; exact Nat.ne_of_lt (Nat.lt_succ_self _)) #[a, b, c],
    ⟨⟨_, Heap.get?_push_size _ rfl, rfl, rfl⟩, hT.push _⟩, fun c hc => ?_, by simp, cmpOf_lt #[a, b, c] hnum, fun v h' tk hP hk => ?_⟩
  · show c < ((h.push _).push _).objs.size
    rw [Heap.size_push, hsz]
    rcases List.mem_cons.mp hc with rfl | hc
    · show (h.push _).objs.size < _
      rw [hsz]; exact Nat.lt_succ_self _
    · rcases List.mem_cons.mp hc with rfl | hc
      · exact Nat.lt_succ_of_lt (Nat.lt_succ_self _)
      · cases hc
  · have hold : ∀ c o, h.get? c = some o → h'.get? c = some o := fun c o e => by
      refine hk c o (fun hm => ?_) (Heap.get?_push_of_some _ (Heap.get?_push_of_some _ e))
      rcases List.mem_cons.mp hm with e1 | hm
      · have h1 := Heap.lt_size e
        have e2 : c = h.objs.size + 1 := e1.trans hsz
        rw [e2] at h1; exact Nat.lt_irrefl _ (Nat.lt_of_succ_lt h1)
      · cases hm
    have hv : ∃ u, v = .float (fmin3 x y z) (u + 1) := by
      subst ha hb hc
      by_cases c1 : (Float64.cmp y x == some .lt) = true
      · by_cases c2 : (Float64.cmp z y == some .lt) = true
        · simp [argBest, ltV, c1, c2] at hP
          exact ⟨tz, by rw [← hP]; simp [fmin3, fmin2, c1, c2]⟩
        · simp [argBest, ltV, c1, c2] at hP
          exact ⟨ty, by rw [← hP]; simp [fmin3, fmin2, c1, c2]⟩
      · by_cases c2 : (Float64.cmp z x == some .lt) = true
        · simp [argBest, ltV, c1, c2] at hP
          exact ⟨tz, by rw [← hP]; simp [fmin3, fmin2, c1, c2]⟩
        · simp [argBest, ltV, c1, c2] at hP
          exact ⟨tx, by rw [← hP]; simp [fmin3, fmin2, c1, c2]⟩
    obtain ⟨u, rfl⟩ := hv
    intro hle
    obtain ⟨m, rfl⟩ := pos_ex hle
    exact k h' u m hold
end
end Mine
end PartMNames

section PartMTyped
open PySem PySem.W PyProof.Rows
set_option autoImplicit false
set_option linter.unusedVariables false
namespace Mine
section
variable {prog : Program} {w : World} {A : Around} {G B h : Heap} {g : Array GenState} {d : Drawn} {t : Nat} {o : OsState} {env : Env} {names : List Str} {vals : List V} {led : Led}
variable {i : Nat} {x : Str} {pos : Pos} {Q : Value → Shared → Prop} {R : Unit → Shared → Prop}
theorem lI {z : Int} (I : Sta G B env names vals led h) (hi : nth names i = some x) (hv : nth vals i = some (.int z)) (k : ∀ u, Q (.int z u) ⟨h, g, d, t, o⟩) (hd : (x == ("__debug__" : Str)) = false := by kernel_rfl) :
    W prog w A (eval (.Name x pos) env) Q ⟨h, g, d, t, o⟩ := load I hi hv nofun k hd
theorem lF {z : UInt64} (I : Sta G B env names vals led h) (hi : nth names i = some x) (hv : nth vals i = some (.float z)) (k : ∀ u, Q (.float z (u + 1)) ⟨h, g, d, t, o⟩) (hd : (x == ("__debug__" : Str)) = false := by kernel_rfl) :
    W prog w A (eval (.Name x pos) env) Q ⟨h, g, d, t, o⟩ := load I hi hv nofun k hd
theorem lS {z : Str} (I : Sta G B env names vals led h) (hi : nth names i = some x) (hv : nth vals i = some (.str z)) (k : ∀ u, Q (.str z u) ⟨h, g, d, t, o⟩) (hd : (x == ("__debug__" : Str)) = false := by kernel_rfl) :
    W prog w A (eval (.Name x pos) env) Q ⟨h, g, d, t, o⟩ := load I hi hv nofun k hd
theorem lB {z : Bool} (I : Sta G B env names vals led h) (hi : nth names i = some x) (hv : nth vals i = some (.bool z)) (k : Q (.bool z) ⟨h, g, d, t, o⟩) (hd : (x == ("__debug__" : Str)) = false := by kernel_rfl) :
    W prog w A (eval (.Name x pos) env) Q ⟨h, g, d, t, o⟩ := load I hi hv nofun (fun _ => k) hd
theorem lN (I : Sta G B env names vals led h) (hi : nth names i = some x) (hv : nth vals i = some .none) (k : Q .none ⟨h, g, d, t, o⟩) (hd : (x == ("__debug__" : Str)) = false := by kernel_rfl) :
    W prog w A (eval (.Name x pos) env) Q ⟨h, g, d, t, o⟩ := load I hi hv nofun (fun _ => k) hd
theorem lR {z : Addr} (I : Sta G B env names vals led h) (hi : nth names i = some x) (hv : nth vals i = some (.ref z)) (k : Q (.ref z) ⟨h, g, d, t, o⟩) (hd : (x == ("__debug__" : Str)) = false := by kernel_rfl) :
    W prog w A (eval (.Name x pos) env) Q ⟨h, g, d, t, o⟩ := load I hi hv nofun (fun _ => k) hd

theorem sI {z : Int} {u : Tok} (I : Sta G B env names vals led h) (hi : nth names i = some x) (k : ∀ h' t', Sta G B env names (setAt vals i (.int z)) led h' → R () ⟨h', g, d, t' + 1, o⟩) :
    W prog w A (storeName env x (.int z u)) R ⟨h, g, d, t + 1, o⟩ := store I hi k
theorem sF {z : UInt64} {u : Tok} (I : Sta G B env names vals led h) (hi : nth names i = some x) (k : ∀ h' t', Sta G B env names (setAt vals i (.float z)) led h' → R () ⟨h', g, d, t' + 1, o⟩) :
    W prog w A (storeName env x (.float z (u + 1))) R ⟨h, g, d, t + 1, o⟩ := store I hi k
theorem sS {z : Str} {u : Tok} (I : Sta G B env names vals led h) (hi : nth names i = some x) (k : ∀ h' t', Sta G B env names (setAt vals i (.str z)) led h' → R () ⟨h', g, d, t' + 1, o⟩) :
    W prog w A (storeName env x (.str z u)) R ⟨h, g, d, t + 1, o⟩ := store I hi k
theorem sB {z : Bool} (I : Sta G B env names vals led h) (hi : nth names i = some x) (k : ∀ h' t', Sta G B env names (setAt vals i (.bool z)) led h' → R () ⟨h', g, d, t' + 1, o⟩) :
    W prog w A (storeName env x (.bool z)) R ⟨h, g, d, t + 1, o⟩ := store I hi k
theorem sN (I : Sta G B env names vals led h) (hi : nth names i = some x) (k : ∀ h' t', Sta G B env names (setAt vals i .none) led h' → R () ⟨h', g, d, t' + 1, o⟩) :
    W prog w A (storeName env x .none) R ⟨h, g, d, t + 1, o⟩ := store I hi k
theorem sR {z : Addr} (I : Sta G B env names vals led h) (hi : nth names i = some x) (k : ∀ h' t', Sta G B env names (setAt vals i (.ref z)) led h' → R () ⟨h', g, d, t' + 1, o⟩) :
    W prog w A (storeName env x (.ref z)) R ⟨h, g, d, t + 1, o⟩ := store I hi k
end
end Mine
end PartMTyped

section PartMFlt
open PySem PySem.W PyProof.Rows
set_option autoImplicit false
set_option linter.unusedVariables false
namespace Mine
abbrev c0 : UInt64 := 0
abbrev c1 : UInt64 := 4607182418800017408
abbrev c2 : UInt64 := 4611686018427387904
abbrev c4 : UInt64 := 4616189618054758400
abbrev c6 : UInt64 := 4618441417868443648
abbrev ch : UInt64 := 4602678819172646912

def hsvI (h : UInt64) : Int := PySem.Flt.toInt Float64.truncOf (Float64.mul h c6)
def hsvRGB (h s v : UInt64) : UInt64 × UInt64 × UInt64 :=
  let i := hsvI h
  let f := Float64.sub (Float64.mul h c6) (Float64.ofInt i)
  let p := Float64.mul v (Float64.sub c1 s)
  let q := Float64.mul v (Float64.sub c1 (Float64.mul s f))
  let t := Float64.mul v (Float64.sub c1 (Float64.mul s (Float64.sub c1 f)))
  if (i.fmod 6 == 0) = true then (v, t, p) else if (i.fmod 6 == 1) = true then (q, v, p) else if (i.fmod 6 == 2) = true then (p, v, t)
  else if (i.fmod 6 == 3) = true then (p, q, v) else if (i.fmod 6 == 4) = true then (t, p, v) else (v, p, q)

def feq (x y : UInt64) : Bool := Float64.cmp x y == some Ordering.eq
def fle (x y : UInt64) : Bool := Float64.cmp x y == some Ordering.lt || Float64.cmp x y == some Ordering.eq
/-- the hue of rgb_to_hsv and of rgb_to_hls -/
def hueOf (r g b : UInt64) : UInt64 :=
  let maxc := fmax3 r g b
  let rangec := Float64.sub maxc (fmin3 r g b)
  let rc := Float64.div (Float64.sub maxc r) rangec
  let gc := Float64.div (Float64.sub maxc g) rangec
  let bc := Float64.div (Float64.sub maxc b) rangec
  let h := if feq r maxc = true then Float64.sub bc gc else if feq g maxc = true then Float64.sub (Float64.add c2 rc) bc else Float64.sub (Float64.add c4 gc) rc
  (Float64.divmod (Float64.div h c6) c1).2
def satOf (r g b : UInt64) : UInt64 := Float64.div (Float64.sub (fmax3 r g b) (fmin3 r g b)) (fmax3 r g b)

theorem d35 (P : Params) : DefOk P 35 [Str.ofString "h", Str.ofString "s", Str.ofString "v"] [Str.ofString "i", Str.ofString "f", Str.ofString "p", Str.ofString "q", Str.ofString "t"] where
  at_ := by kernel_rfl
  body := by kernel_rfl
  code := by kernel_rfl
  co := by kernel_rfl
  gen := by kernel_rfl
  fn := by kernel_rfl
  cell := by kernel_rfl
  loc := by kernel_rfl
  nod := by decide +kernel
theorem d28 (P : Params) : DefOk P 28 [Str.ofString "r", Str.ofString "g", Str.ofString "b"] [Str.ofString "maxc", Str.ofString "minc", Str.ofString "rangec", Str.ofString "v", Str.ofString "s", Str.ofString "rc", Str.ofString "gc", Str.ofString "bc", Str.ofString "h"] where
  at_ := by kernel_rfl
  body := by kernel_rfl
  code := by kernel_rfl
  co := by kernel_rfl
  gen := by kernel_rfl
  fn := by kernel_rfl
  cell := by kernel_rfl
  loc := by kernel_rfl
  nod := by decide +kernel
theorem d21 (P : Params) : DefOk P 21 [Str.ofString "r", Str.ofString "g", Str.ofString "b"] [Str.ofString "maxc", Str.ofString "minc", Str.ofString "sumc", Str.ofString "rangec", Str.ofString "l", Str.ofString "s", Str.ofString "rc", Str.ofString "gc", Str.ofString "bc", Str.ofString "h"] where
  at_ := by kernel_rfl
  body := by kernel_rfl
  code := by kernel_rfl
  co := by kernel_rfl
  gen := by kernel_rfl
  fn := by kernel_rfl
  cell := by kernel_rfl
  loc := by kernel_rfl
  nod := by decide +kernel

section
variable {prog : Program} {w : World} {A : Around} {G h : Heap} {g : Array GenState} {d : Drawn} {t : Nat} {o : OsState} {mg mb : Str → Option Value}
theorem hsv_to_rgb_ok {x s v : UInt64} {tx ts tv : Tok} {Q : Value → Shared → Prop} (gg : GG w G mg mb) (hg : Glob G h) (hroom : A.depth < recursionLimit) (hh : A.handled = none)
    (hs : feq s c0 = false) (hf : Float64.isFinite (Float64.mul x c6) = true) (hi : (hsvI x).natAbs < 2 ^ 1023)
    (k : ∀ h' t' r, Kept h h' → Glob G h' → h.get? r = none → Has h' r (Tup [.float (hsvRGB x s v).1, .float (hsvRGB x s v).2.1, .float (hsvRGB x s v).2.2]) → Q (.ref r) ⟨h', g, d, t' + 1, o⟩) :
    W prog w A (call (.ref 35) [.float x (tx + 1), .float s (ts + 1), .float v (tv + 1)]) Q ⟨h, g, d, t + 1, o⟩ := by
  refine enterN (names := [Str.ofString "h", Str.ofString "s", Str.ofString "v", Str.ofString "i", Str.ofString "f", Str.ofString "p", Str.ofString "q", Str.ofString "t"]) (vals := [.float x, .float s, .float v, .unb, .unb, .unb, .unb, .unb]) gg hg (d35 _) hroom rfl (by kernel_rfl) rfl rfl fun h0 t0 I => ?_
  refine xCons ?_
  refine xIf ?_
  refine xTest ?_
  refine lF I (i := 1) rfl rfl (fun _ => ?_)
  refine cFloat fun _ _ => ?_
  refine fEq ?_
  refine tBool ?_
  refine br_f (show _ from hs) ?_
  refine xNil ?_
  refine xCons ?_
  refine xAssign ?_
  refine xCall ?_
  refine bload gg I.glob (b_int _) ?_
  refine xType ?_
  refine xArg ?_
  refine xBin ?_
  refine lF I (i := 0) rfl rfl (fun _ => ?_)
  refine cFloat fun _ _ => ?_
  refine fMul fun _ _ => ?_
  refine xArgs ?_
  refine fInt hh hf fun _ _ => ?_
  refine sI I (i := 3) rfl fun h1 t1 I1 => ?_
  simp only [setAt] at I1
  refine xCons ?_
  refine xAssign ?_
  refine xBin ?_
  refine xBin ?_
  refine lF I1 (i := 0) rfl rfl (fun _ => ?_)
  refine cFloat fun _ _ => ?_
  refine fMul fun _ _ => ?_
  refine lI I1 (i := 3) rfl rfl (fun _ => ?_)
  refine fiSub (show _ from hi) fun _ _ => ?_
  refine sF I1 (i := 4) rfl fun h2 t2 I2 => ?_
  simp only [setAt] at I2
  refine xCons ?_
  refine xAssign ?_
  refine xBin ?_
  refine lF I2 (i := 2) rfl rfl (fun _ => ?_)
  refine xBin ?_
  refine cFloat fun _ _ => ?_
  refine lF I2 (i := 1) rfl rfl (fun _ => ?_)
  refine fSub fun _ _ => ?_
  refine fMul fun _ _ => ?_
  refine sF I2 (i := 5) rfl fun h3 t3 I3 => ?_
  simp only [setAt] at I3
  refine xCons ?_
  refine xAssign ?_
  refine xBin ?_
  refine lF I3 (i := 2) rfl rfl (fun _ => ?_)
  refine xBin ?_
  refine cFloat fun _ _ => ?_
  refine xBin ?_
  refine lF I3 (i := 1) rfl rfl (fun _ => ?_)
  refine lF I3 (i := 4) rfl rfl (fun _ => ?_)
  refine fMul fun _ _ => ?_
  refine fSub fun _ _ => ?_
  refine fMul fun _ _ => ?_
  refine sF I3 (i := 6) rfl fun h4 t4 I4 => ?_
  simp only [setAt] at I4
  refine xCons ?_
  refine xAssign ?_
  refine xBin ?_
  refine lF I4 (i := 2) rfl rfl (fun _ => ?_)
  refine xBin ?_
  refine cFloat fun _ _ => ?_
  refine xBin ?_
  refine lF I4 (i := 1) rfl rfl (fun _ => ?_)
  refine xBin ?_
  refine cFloat fun _ _ => ?_
  refine lF I4 (i := 4) rfl rfl (fun _ => ?_)
  refine fSub fun _ _ => ?_
  refine fMul fun _ _ => ?_
  refine fSub fun _ _ => ?_
  refine fMul fun _ _ => ?_
  refine sF I4 (i := 7) rfl fun h5 t5 I5 => ?_
  simp only [setAt] at I5
  refine xCons ?_
  refine xAssign ?_
  refine xBin ?_
  refine lI I5 (i := 3) rfl rfl (fun _ => ?_)
  refine cInt fun _ _ => ?_
  refine iMod hh (by decide) fun _ _ => ?_
  refine sI I5 (i := 3) rfl fun h6 t6 I6 => ?_
  simp only [setAt] at I6
  have hm0 := Int.fmod_nonneg_of_pos (hsvI x) (b := 6) (by decide)
  have hm1 := Int.fmod_lt_of_pos (hsvI x) (b := 6) (by decide)
  refine xCons ?_
  refine xIf ?_
  refine xTest ?_
  refine lI I6 (i := 3) rfl rfl (fun _ => ?_)
  refine cInt fun _ _ => ?_
  refine iEq ?_
  refine tBool ?_
  by_cases e0 : ((hsvI x).fmod 6 == 0) = true
  · refine br_t (show _ from e0) ?_
    refine xCons ?_
    refine xReturn ?_
    refine xTuple ?_
    refine xArg ?_
    refine lF I6 (i := 2) rfl rfl (fun _ => ?_)
    refine xArg ?_
    refine lF I6 (i := 7) rfl rfl (fun _ => ?_)
    refine xArg ?_
    refine lF I6 (i := 5) rfl rfl (fun _ => ?_)
    refine xArgs ?_
    refine mkTuple I6 rfl fun r7 h7 I7 => ?_
    refine k _ _ _ I7.keep I7.glob (I7.fresh (i := 0) rfl) ?_
    unfold hsvRGB; simp only [if_pos e0]; exact I7.has (i := 0) rfl
  refine br_n (show _ from e0) ?_
  refine xNil ?_
  refine xCons ?_
  refine xIf ?_
  refine xTest ?_
  refine lI I6 (i := 3) rfl rfl (fun _ => ?_)
  refine cInt fun _ _ => ?_
  refine iEq ?_
  refine tBool ?_
  by_cases e1 : ((hsvI x).fmod 6 == 1) = true
  · refine br_t (show _ from e1) ?_
    refine xCons ?_
    refine xReturn ?_
    refine xTuple ?_
    refine xArg ?_
    refine lF I6 (i := 6) rfl rfl (fun _ => ?_)
    refine xArg ?_
    refine lF I6 (i := 2) rfl rfl (fun _ => ?_)
    refine xArg ?_
    refine lF I6 (i := 5) rfl rfl (fun _ => ?_)
    refine xArgs ?_
    refine mkTuple I6 rfl fun r8 h8 I8 => ?_
    refine k _ _ _ I8.keep I8.glob (I8.fresh (i := 0) rfl) ?_
    unfold hsvRGB; simp only [if_neg e0, if_pos e1]; exact I8.has (i := 0) rfl
  refine br_n (show _ from e1) ?_
  refine xNil ?_
  refine xCons ?_
  refine xIf ?_
  refine xTest ?_
  refine lI I6 (i := 3) rfl rfl (fun _ => ?_)
  refine cInt fun _ _ => ?_
  refine iEq ?_
  refine tBool ?_
  by_cases e2 : ((hsvI x).fmod 6 == 2) = true
  · refine br_t (show _ from e2) ?_
    refine xCons ?_
    refine xReturn ?_
    refine xTuple ?_
    refine xArg ?_
    refine lF I6 (i := 5) rfl rfl (fun _ => ?_)
    refine xArg ?_
    refine lF I6 (i := 2) rfl rfl (fun _ => ?_)
    refine xArg ?_
    refine lF I6 (i := 7) rfl rfl (fun _ => ?_)
    refine xArgs ?_
    refine mkTuple I6 rfl fun r9 h9 I9 => ?_
    refine k _ _ _ I9.keep I9.glob (I9.fresh (i := 0) rfl) ?_
    unfold hsvRGB; simp only [if_neg e0, if_neg e1, if_pos e2]; exact I9.has (i := 0) rfl
  refine br_n (show _ from e2) ?_
  refine xNil ?_
  refine xCons ?_
  refine xIf ?_
  refine xTest ?_
  refine lI I6 (i := 3) rfl rfl (fun _ => ?_)
  refine cInt fun _ _ => ?_
  refine iEq ?_
  refine tBool ?_
  by_cases e3 : ((hsvI x).fmod 6 == 3) = true
  · refine br_t (show _ from e3) ?_
    refine xCons ?_
    refine xReturn ?_
    refine xTuple ?_
    refine xArg ?_
    refine lF I6 (i := 5) rfl rfl (fun _ => ?_)
    refine xArg ?_
    refine lF I6 (i := 6) rfl rfl (fun _ => ?_)
    refine xArg ?_
    refine lF I6 (i := 2) rfl rfl (fun _ => ?_)
    refine xArgs ?_
    refine mkTuple I6 rfl fun r10 h10 I10 => ?_
    refine k _ _ _ I10.keep I10.glob (I10.fresh (i := 0) rfl) ?_
    unfold hsvRGB; simp only [if_neg e0, if_neg e1, if_neg e2, if_pos e3]; exact I10.has (i := 0) rfl
  refine br_n (show _ from e3) ?_
  refine xNil ?_
  refine xCons ?_
  refine xIf ?_
  refine xTest ?_
  refine lI I6 (i := 3) rfl rfl (fun _ => ?_)
  refine cInt fun _ _ => ?_
  refine iEq ?_
  refine tBool ?_
  by_cases e4 : ((hsvI x).fmod 6 == 4) = true
  · refine br_t (show _ from e4) ?_
    refine xCons ?_
    refine xReturn ?_
    refine xTuple ?_
    refine xArg ?_
    refine lF I6 (i := 7) rfl rfl (fun _ => ?_)
    refine xArg ?_
    refine lF I6 (i := 5) rfl rfl (fun _ => ?_)
    refine xArg ?_
    refine lF I6 (i := 2) rfl rfl (fun _ => ?_)
    refine xArgs ?_
    refine mkTuple I6 rfl fun r11 h11 I11 => ?_
    refine k _ _ _ I11.keep I11.glob (I11.fresh (i := 0) rfl) ?_
    unfold hsvRGB; simp only [if_neg e0, if_neg e1, if_neg e2, if_neg e3, if_pos e4]; exact I11.has (i := 0) rfl
  refine br_n (show _ from e4) ?_
  refine xNil ?_
  refine xCons ?_
  refine xIf ?_
  refine xTest ?_
  refine lI I6 (i := 3) rfl rfl (fun _ => ?_)
  refine cInt fun _ _ => ?_
  refine iEq ?_
  refine tBool ?_
  by_cases e5 : ((hsvI x).fmod 6 == 5) = true
  · refine br_t (show _ from e5) ?_
    refine xCons ?_
    refine xReturn ?_
    refine xTuple ?_
    refine xArg ?_
    refine lF I6 (i := 2) rfl rfl (fun _ => ?_)
    refine xArg ?_
    refine lF I6 (i := 5) rfl rfl (fun _ => ?_)
    refine xArg ?_
    refine lF I6 (i := 6) rfl rfl (fun _ => ?_)
    refine xArgs ?_
    refine mkTuple I6 rfl fun r12 h12 I12 => ?_
    refine k _ _ _ I12.keep I12.glob (I12.fresh (i := 0) rfl) ?_
    unfold hsvRGB; simp only [if_neg e0, if_neg e1, if_neg e2, if_neg e3, if_neg e4]; exact I12.has (i := 0) rfl
  refine br_n (show _ from e5) ?_
  refine xNil ?_
  exfalso; simp only [beq_iff_eq] at e0 e1 e2 e3 e4 e5; lia

theorem rgb_to_hsv_ok {x y z : UInt64} {tx ty tz : Tok} {Q : Value → Shared → Prop} (gg : GG w G mg mb) (hg : Glob G h) (hroom : A.depth < recursionLimit) (hh : A.handled = none)
    (hne : feq (fmin3 x y z) (fmax3 x y z) = false) (hr : Float64.isZero (Float64.sub (fmax3 x y z) (fmin3 x y z)) = false) (hmz : Float64.isZero (fmax3 x y z) = false)
    (k : ∀ h' t' r, Kept h h' → Glob G h' → h.get? r = none → Has h' r (Tup [.float (hueOf x y z), .float (satOf x y z), .float (fmax3 x y z)]) → Q (.ref r) ⟨h', g, d, t' + 1, o⟩) :
    W prog w A (call (.ref 28) [.float x (tx + 1), .float y (ty + 1), .float z (tz + 1)]) Q ⟨h, g, d, t + 1, o⟩ := by
  refine enterN (names := [Str.ofString "r", Str.ofString "g", Str.ofString "b", Str.ofString "maxc", Str.ofString "minc", Str.ofString "rangec", Str.ofString "v", Str.ofString "s", Str.ofString "rc", Str.ofString "gc", Str.ofString "bc", Str.ofString "h"]) (vals := [.float x, .float y, .float z, .unb, .unb, .unb, .unb, .unb, .unb, .unb, .unb, .unb]) gg hg (d28 _) hroom rfl (by kernel_rfl) rfl rfl fun h0 t0 I => ?_
  have hz6 : Float64.isZero c6 = false := by decide +kernel
  have hz1 : Float64.isZero c1 = false := by decide +kernel
  refine xCons ?_
  refine xAssign ?_
  refine xCall ?_
  refine bload gg I.glob (b_max _) ?_
  refine xBuiltin ?_
  refine xArg ?_
  refine lF I (i := 0) rfl rfl (fun _ => ?_)
  refine xArg ?_
  refine lF I (i := 1) rfl rfl (fun _ => ?_)
  refine xArg ?_
  refine lF I (i := 2) rfl rfl (fun _ => ?_)
  refine xArgs ?_
  refine fMax3 hh fun h1 _ _ K1 => ?_
  have I1 := I.ext K1
  refine sF I1 (i := 3) rfl fun h2 t2 I2 => ?_
  simp only [setAt] at I2
  refine xCons ?_
  refine xAssign ?_
  refine xCall ?_
  refine bload gg I2.glob (b_min _) ?_
  refine xBuiltin ?_
  refine xArg ?_
  refine lF I2 (i := 0) rfl rfl (fun _ => ?_)
  refine xArg ?_
  refine lF I2 (i := 1) rfl rfl (fun _ => ?_)
  refine xArg ?_
  refine lF I2 (i := 2) rfl rfl (fun _ => ?_)
  refine xArgs ?_
  refine fMin3 hh fun h3 _ _ K3 => ?_
  have I3 := I2.ext K3
  refine sF I3 (i := 4) rfl fun h4 t4 I4 => ?_
  simp only [setAt] at I4
  refine xCons ?_
  refine xAssign ?_
  refine xBin ?_
  refine lF I4 (i := 3) rfl rfl (fun _ => ?_)
  refine lF I4 (i := 4) rfl rfl (fun _ => ?_)
  refine fSub fun _ _ => ?_
  refine sF I4 (i := 5) rfl fun h5 t5 I5 => ?_
  simp only [setAt] at I5
  refine xCons ?_
  refine xAssign ?_
  refine lF I5 (i := 3) rfl rfl (fun _ => ?_)
  refine sF I5 (i := 6) rfl fun h6 t6 I6 => ?_
  simp only [setAt] at I6
  refine xCons ?_
  refine xIf ?_
  refine xTest ?_
  refine lF I6 (i := 4) rfl rfl (fun _ => ?_)
  refine lF I6 (i := 3) rfl rfl (fun _ => ?_)
  refine fEq ?_
  refine tBool ?_
  refine br_f (show _ from hne) ?_
  refine xNil ?_
  refine xCons ?_
  refine xAssign ?_
  refine xBin ?_
  refine lF I6 (i := 5) rfl rfl (fun _ => ?_)
  refine lF I6 (i := 3) rfl rfl (fun _ => ?_)
  refine fDiv hmz fun _ _ => ?_
  refine sF I6 (i := 7) rfl fun h7 t7 I7 => ?_
  simp only [setAt] at I7
  refine xCons ?_
  refine xAssign ?_
  refine xBin ?_
  refine xBin ?_
  refine lF I7 (i := 3) rfl rfl (fun _ => ?_)
  refine lF I7 (i := 0) rfl rfl (fun _ => ?_)
  refine fSub fun _ _ => ?_
  refine lF I7 (i := 5) rfl rfl (fun _ => ?_)
  refine fDiv hr fun _ _ => ?_
  refine sF I7 (i := 8) rfl fun h8 t8 I8 => ?_
  simp only [setAt] at I8
  refine xCons ?_
  refine xAssign ?_
  refine xBin ?_
  refine xBin ?_
  refine lF I8 (i := 3) rfl rfl (fun _ => ?_)
  refine lF I8 (i := 1) rfl rfl (fun _ => ?_)
  refine fSub fun _ _ => ?_
  refine lF I8 (i := 5) rfl rfl (fun _ => ?_)
  refine fDiv hr fun _ _ => ?_
  refine sF I8 (i := 9) rfl fun h9 t9 I9 => ?_
  simp only [setAt] at I9
  refine xCons ?_
  refine xAssign ?_
  refine xBin ?_
  refine xBin ?_
  refine lF I9 (i := 3) rfl rfl (fun _ => ?_)
  refine lF I9 (i := 2) rfl rfl (fun _ => ?_)
  refine fSub fun _ _ => ?_
  refine lF I9 (i := 5) rfl rfl (fun _ => ?_)
  refine fDiv hr fun _ _ => ?_
  refine sF I9 (i := 10) rfl fun h10 t10 I10 => ?_
  simp only [setAt] at I10
  refine xCons ?_
  refine xIf ?_
  refine xTest ?_
  refine lF I10 (i := 0) rfl rfl (fun _ => ?_)
  refine lF I10 (i := 3) rfl rfl (fun _ => ?_)
  refine fEq ?_
  refine tBool ?_
  by_cases e1 : feq x (fmax3 x y z) = true
  · refine br_t (show _ from e1) ?_
    refine xCons ?_
    refine xAssign ?_
    refine xBin ?_
    refine lF I10 (i := 10) rfl rfl (fun _ => ?_)
    refine lF I10 (i := 9) rfl rfl (fun _ => ?_)
    refine fSub fun _ _ => ?_
    refine sF I10 (i := 11) rfl fun h11 t11 I11 => ?_
    simp only [setAt] at I11
    refine xNil ?_
    refine xCons ?_
    refine xAssign ?_
    refine xBin ?_
    refine xBin ?_
    refine lF I11 (i := 11) rfl rfl (fun _ => ?_)
    refine cFloat fun _ _ => ?_
    refine fDiv hz6 fun _ _ => ?_
    refine cFloat fun _ _ => ?_
    refine fMod hz1 fun _ _ => ?_
    refine sF I11 (i := 11) rfl fun h12 t12 I12 => ?_
    simp only [setAt] at I12
    refine xCons ?_
    refine xReturn ?_
    refine xTuple ?_
    refine xArg ?_
    refine lF I12 (i := 11) rfl rfl (fun _ => ?_)
    refine xArg ?_
    refine lF I12 (i := 7) rfl rfl (fun _ => ?_)
    refine xArg ?_
    refine lF I12 (i := 6) rfl rfl (fun _ => ?_)
    refine xArgs ?_
    refine mkTuple I12 rfl fun r13 h13 I13 => ?_
    refine k _ _ _ I13.keep I13.glob (I13.fresh (i := 0) rfl) ?_
    unfold hueOf; simp only [if_pos e1]; exact I13.has (i := 0) rfl
  refine br_n (show _ from e1) ?_
  refine xCons ?_
  refine xIf ?_
  refine xTest ?_
  refine lF I10 (i := 1) rfl rfl (fun _ => ?_)
  refine lF I10 (i := 3) rfl rfl (fun _ => ?_)
  refine fEq ?_
  refine tBool ?_
  by_cases e2 : feq y (fmax3 x y z) = true
  · refine br_t (show _ from e2) ?_
    refine xCons ?_
    refine xAssign ?_
    refine xBin ?_
    refine xBin ?_
    refine cFloat fun _ _ => ?_
    refine lF I10 (i := 8) rfl rfl (fun _ => ?_)
    refine fAdd fun _ _ => ?_
    refine lF I10 (i := 10) rfl rfl (fun _ => ?_)
    refine fSub fun _ _ => ?_
    refine sF I10 (i := 11) rfl fun h14 t14 I14 => ?_
    simp only [setAt] at I14
    refine xNil ?_
    refine xNil ?_
    refine xCons ?_
    refine xAssign ?_
    refine xBin ?_
    refine xBin ?_
    refine lF I14 (i := 11) rfl rfl (fun _ => ?_)
    refine cFloat fun _ _ => ?_
    refine fDiv hz6 fun _ _ => ?_
    refine cFloat fun _ _ => ?_
    refine fMod hz1 fun _ _ => ?_
    refine sF I14 (i := 11) rfl fun h15 t15 I15 => ?_
    simp only [setAt] at I15
    refine xCons ?_
    refine xReturn ?_
    refine xTuple ?_
    refine xArg ?_
    refine lF I15 (i := 11) rfl rfl (fun _ => ?_)
    refine xArg ?_
    refine lF I15 (i := 7) rfl rfl (fun _ => ?_)
    refine xArg ?_
    refine lF I15 (i := 6) rfl rfl (fun _ => ?_)
    refine xArgs ?_
    refine mkTuple I15 rfl fun r16 h16 I16 => ?_
    refine k _ _ _ I16.keep I16.glob (I16.fresh (i := 0) rfl) ?_
    unfold hueOf; simp only [if_neg e1, if_pos e2]; exact I16.has (i := 0) rfl
  refine br_n (show _ from e2) ?_
  refine xCons ?_
  refine xAssign ?_
  refine xBin ?_
  refine xBin ?_
  refine cFloat fun _ _ => ?_
  refine lF I10 (i := 9) rfl rfl (fun _ => ?_)
  refine fAdd fun _ _ => ?_
  refine lF I10 (i := 8) rfl rfl (fun _ => ?_)
  refine fSub fun _ _ => ?_
  refine sF I10 (i := 11) rfl fun h17 t17 I17 => ?_
  simp only [setAt] at I17
  refine xNil ?_
  refine xNil ?_
  refine xCons ?_
  refine xAssign ?_
  refine xBin ?_
  refine xBin ?_
  refine lF I17 (i := 11) rfl rfl (fun _ => ?_)
  refine cFloat fun _ _ => ?_
  refine fDiv hz6 fun _ _ => ?_
  refine cFloat fun _ _ => ?_
  refine fMod hz1 fun _ _ => ?_
  refine sF I17 (i := 11) rfl fun h18 t18 I18 => ?_
  simp only [setAt] at I18
  refine xCons ?_
  refine xReturn ?_
  refine xTuple ?_
  refine xArg ?_
  refine lF I18 (i := 11) rfl rfl (fun _ => ?_)
  refine xArg ?_
  refine lF I18 (i := 7) rfl rfl (fun _ => ?_)
  refine xArg ?_
  refine lF I18 (i := 6) rfl rfl (fun _ => ?_)
  refine xArgs ?_
  refine mkTuple I18 rfl fun r19 h19 I19 => ?_
  refine k _ _ _ I19.keep I19.glob (I19.fresh (i := 0) rfl) ?_
  unfold hueOf; simp only [if_neg e1, if_neg e2]; exact I19.has (i := 0) rfl

theorem rgb_to_hls_ok {x y z : UInt64} {tx ty tz : Tok} {Q : Value → Shared → Prop} (gg : GG w G mg mb) (hg : Glob G h) (hroom : A.depth < recursionLimit) (hh : A.handled = none)
    (hne : feq (fmin3 x y z) (fmax3 x y z) = false) (hr : Float64.isZero (Float64.sub (fmax3 x y z) (fmin3 x y z)) = false) (hsz : Float64.isZero (Float64.add (fmax3 x y z) (fmin3 x y z)) = false) (hdz : Float64.isZero (Float64.sub (Float64.sub c2 (fmax3 x y z)) (fmin3 x y z)) = false ∨ fle (Float64.div (Float64.add (fmax3 x y z) (fmin3 x y z)) c2) ch = true)
    (k : ∀ h' t' r, Kept h h' → Glob G h' → h.get? r = none → Has h' r (fun ob => ∃ l s, Tup [.float (hueOf x y z), l, s] ob) → Q (.ref r) ⟨h', g, d, t' + 1, o⟩) :
    W prog w A (call (.ref 21) [.float x (tx + 1), .float y (ty + 1), .float z (tz + 1)]) Q ⟨h, g, d, t + 1, o⟩ := by
  refine enterN (names := [Str.ofString "r", Str.ofString "g", Str.ofString "b", Str.ofString "maxc", Str.ofString "minc", Str.ofString "sumc", Str.ofString "rangec", Str.ofString "l", Str.ofString "s", Str.ofString "rc", Str.ofString "gc", Str.ofString "bc", Str.ofString "h"]) (vals := [.float x, .float y, .float z, .unb, .unb, .unb, .unb, .unb, .unb, .unb, .unb, .unb, .unb]) gg hg (d21 _) hroom rfl (by kernel_rfl) rfl rfl fun h0 t0 I => ?_
  have hz2 : Float64.isZero c2 = false := by decide +kernel
  have hz6 : Float64.isZero c6 = false := by decide +kernel
  have hz1 : Float64.isZero c1 = false := by decide +kernel
  refine xCons ?_
  refine xAssign ?_
  refine xCall ?_
  refine bload gg I.glob (b_max _) ?_
  refine xBuiltin ?_
  refine xArg ?_
  refine lF I (i := 0) rfl rfl (fun _ => ?_)
  refine xArg ?_
  refine lF I (i := 1) rfl rfl (fun _ => ?_)
  refine xArg ?_
  refine lF I (i := 2) rfl rfl (fun _ => ?_)
  refine xArgs ?_
  refine fMax3 hh fun h1 _ _ K1 => ?_
  have I1 := I.ext K1
  refine sF I1 (i := 3) rfl fun h2 t2 I2 => ?_
  simp only [setAt] at I2
  refine xCons ?_
  refine xAssign ?_
  refine xCall ?_
  refine bload gg I2.glob (b_min _) ?_
  refine xBuiltin ?_
  refine xArg ?_
  refine lF I2 (i := 0) rfl rfl (fun _ => ?_)
  refine xArg ?_
  refine lF I2 (i := 1) rfl rfl (fun _ => ?_)
  refine xArg ?_
  refine lF I2 (i := 2) rfl rfl (fun _ => ?_)
  refine xArgs ?_
  refine fMin3 hh fun h3 _ _ K3 => ?_
  have I3 := I2.ext K3
  refine sF I3 (i := 4) rfl fun h4 t4 I4 => ?_
  simp only [setAt] at I4
  refine xCons ?_
  refine xAssign ?_
  refine xBin ?_
  refine lF I4 (i := 3) rfl rfl (fun _ => ?_)
  refine lF I4 (i := 4) rfl rfl (fun _ => ?_)
  refine fAdd fun _ _ => ?_
  refine sF I4 (i := 5) rfl fun h5 t5 I5 => ?_
  simp only [setAt] at I5
  refine xCons ?_
  refine xAssign ?_
  refine xBin ?_
  refine lF I5 (i := 3) rfl rfl (fun _ => ?_)
  refine lF I5 (i := 4) rfl rfl (fun _ => ?_)
  refine fSub fun _ _ => ?_
  refine sF I5 (i := 6) rfl fun h6 t6 I6 => ?_
  simp only [setAt] at I6
  refine xCons ?_
  refine xAssign ?_
  refine xBin ?_
  refine lF I6 (i := 5) rfl rfl (fun _ => ?_)
  refine cFloat fun _ _ => ?_
  refine fDiv hz2 fun _ _ => ?_
  refine sF I6 (i := 7) rfl fun h7 t7 I7 => ?_
  simp only [setAt] at I7
  refine xCons ?_
  refine xIf ?_
  refine xTest ?_
  refine lF I7 (i := 4) rfl rfl (fun _ => ?_)
  refine lF I7 (i := 3) rfl rfl (fun _ => ?_)
  refine fEq ?_
  refine tBool ?_
  refine br_f (show _ from hne) ?_
  refine xNil ?_
  refine xCons ?_
  refine xIf ?_
  refine xTest ?_
  refine lF I7 (i := 7) rfl rfl (fun _ => ?_)
  refine cFloat fun _ _ => ?_
  refine fLe ?_
  refine tBool ?_
  by_cases e0 : fle (Float64.div (Float64.add (fmax3 x y z) (fmin3 x y z)) c2) ch = true
  · refine br_t (show _ from e0) ?_
    refine xCons ?_
    refine xAssign ?_
    refine xBin ?_
    refine lF I7 (i := 6) rfl rfl (fun _ => ?_)
    refine lF I7 (i := 5) rfl rfl (fun _ => ?_)
    refine fDiv hsz fun _ _ => ?_
    refine sF I7 (i := 8) rfl fun h8 t8 I8 => ?_
    simp only [setAt] at I8
    refine xNil ?_
    refine xCons ?_
    refine xAssign ?_
    refine xBin ?_
    refine xBin ?_
    refine lF I8 (i := 3) rfl rfl (fun _ => ?_)
    refine lF I8 (i := 0) rfl rfl (fun _ => ?_)
    refine fSub fun _ _ => ?_
    refine lF I8 (i := 6) rfl rfl (fun _ => ?_)
    refine fDiv hr fun _ _ => ?_
    refine sF I8 (i := 9) rfl fun h9 t9 I9 => ?_
    simp only [setAt] at I9
    refine xCons ?_
    refine xAssign ?_
    refine xBin ?_
    refine xBin ?_
    refine lF I9 (i := 3) rfl rfl (fun _ => ?_)
    refine lF I9 (i := 1) rfl rfl (fun _ => ?_)
    refine fSub fun _ _ => ?_
    refine lF I9 (i := 6) rfl rfl (fun _ => ?_)
    refine fDiv hr fun _ _ => ?_
    refine sF I9 (i := 10) rfl fun h10 t10 I10 => ?_
    simp only [setAt] at I10
    refine xCons ?_
    refine xAssign ?_
    refine xBin ?_
    refine xBin ?_
    refine lF I10 (i := 3) rfl rfl (fun _ => ?_)
    refine lF I10 (i := 2) rfl rfl (fun _ => ?_)
    refine fSub fun _ _ => ?_
    refine lF I10 (i := 6) rfl rfl (fun _ => ?_)
    refine fDiv hr fun _ _ => ?_
    refine sF I10 (i := 11) rfl fun h11 t11 I11 => ?_
    simp only [setAt] at I11
    refine xCons ?_
    refine xIf ?_
    refine xTest ?_
    refine lF I11 (i := 0) rfl rfl (fun _ => ?_)
    refine lF I11 (i := 3) rfl rfl (fun _ => ?_)
    refine fEq ?_
    refine tBool ?_
    by_cases e1 : feq x (fmax3 x y z) = true
    · refine br_t (show _ from e1) ?_
      refine xCons ?_
      refine xAssign ?_
      refine xBin ?_
      refine lF I11 (i := 11) rfl rfl (fun _ => ?_)
      refine lF I11 (i := 10) rfl rfl (fun _ => ?_)
      refine fSub fun _ _ => ?_
      refine sF I11 (i := 12) rfl fun h12 t12 I12 => ?_
      simp only [setAt] at I12
      refine xNil ?_
      refine xCons ?_
      refine xAssign ?_
      refine xBin ?_
      refine xBin ?_
      refine lF I12 (i := 12) rfl rfl (fun _ => ?_)
      refine cFloat fun _ _ => ?_
      refine fDiv hz6 fun _ _ => ?_
      refine cFloat fun _ _ => ?_
      refine fMod hz1 fun _ _ => ?_
      refine sF I12 (i := 12) rfl fun h13 t13 I13 => ?_
      simp only [setAt] at I13
      refine xCons ?_
      refine xReturn ?_
      refine xTuple ?_
      refine xArg ?_
      refine lF I13 (i := 12) rfl rfl (fun _ => ?_)
      refine xArg ?_
      refine lF I13 (i := 7) rfl rfl (fun _ => ?_)
      refine xArg ?_
      refine lF I13 (i := 8) rfl rfl (fun _ => ?_)
      refine xArgs ?_
      refine mkTuple I13 rfl fun r14 h14 I14 => ?_
      refine k _ _ _ I14.keep I14.glob (I14.fresh (i := 0) rfl) ?_
      unfold hueOf; simp only [if_pos e1]; obtain ⟨ob, e, p⟩ := I14.has (i := 0) rfl; exact ⟨ob, e, _, _, p⟩
    refine br_n (show _ from e1) ?_
    refine xCons ?_
    refine xIf ?_
    refine xTest ?_
    refine lF I11 (i := 1) rfl rfl (fun _ => ?_)
    refine lF I11 (i := 3) rfl rfl (fun _ => ?_)
    refine fEq ?_
    refine tBool ?_
    by_cases e2 : feq y (fmax3 x y z) = true
    · refine br_t (show _ from e2) ?_
      refine xCons ?_
      refine xAssign ?_
      refine xBin ?_
      refine xBin ?_
      refine cFloat fun _ _ => ?_
      refine lF I11 (i := 9) rfl rfl (fun _ => ?_)
      refine fAdd fun _ _ => ?_
      refine lF I11 (i := 11) rfl rfl (fun _ => ?_)
      refine fSub fun _ _ => ?_
      refine sF I11 (i := 12) rfl fun h15 t15 I15 => ?_
      simp only [setAt] at I15
      refine xNil ?_
      refine xNil ?_
      refine xCons ?_
      refine xAssign ?_
      refine xBin ?_
      refine xBin ?_
      refine lF I15 (i := 12) rfl rfl (fun _ => ?_)
      refine cFloat fun _ _ => ?_
      refine fDiv hz6 fun _ _ => ?_
      refine cFloat fun _ _ => ?_
      refine fMod hz1 fun _ _ => ?_
      refine sF I15 (i := 12) rfl fun h16 t16 I16 => ?_
      simp only [setAt] at I16
      refine xCons ?_
      refine xReturn ?_
      refine xTuple ?_
      refine xArg ?_
      refine lF I16 (i := 12) rfl rfl (fun _ => ?_)
      refine xArg ?_
      refine lF I16 (i := 7) rfl rfl (fun _ => ?_)
      refine xArg ?_
      refine lF I16 (i := 8) rfl rfl (fun _ => ?_)
      refine xArgs ?_
      refine mkTuple I16 rfl fun r17 h17 I17 => ?_
      refine k _ _ _ I17.keep I17.glob (I17.fresh (i := 0) rfl) ?_
      unfold hueOf; simp only [if_neg e1, if_pos e2]; obtain ⟨ob, e, p⟩ := I17.has (i := 0) rfl; exact ⟨ob, e, _, _, p⟩
    refine br_n (show _ from e2) ?_
    refine xCons ?_
    refine xAssign ?_
    refine xBin ?_
    refine xBin ?_
    refine cFloat fun _ _ => ?_
    refine lF I11 (i := 10) rfl rfl (fun _ => ?_)
    refine fAdd fun _ _ => ?_
    refine lF I11 (i := 9) rfl rfl (fun _ => ?_)
    refine fSub fun _ _ => ?_
    refine sF I11 (i := 12) rfl fun h18 t18 I18 => ?_
    simp only [setAt] at I18
    refine xNil ?_
    refine xNil ?_
    refine xCons ?_
    refine xAssign ?_
    refine xBin ?_
    refine xBin ?_
    refine lF I18 (i := 12) rfl rfl (fun _ => ?_)
    refine cFloat fun _ _ => ?_
    refine fDiv hz6 fun _ _ => ?_
    refine cFloat fun _ _ => ?_
    refine fMod hz1 fun _ _ => ?_
    refine sF I18 (i := 12) rfl fun h19 t19 I19 => ?_
    simp only [setAt] at I19
    refine xCons ?_
    refine xReturn ?_
    refine xTuple ?_
    refine xArg ?_
    refine lF I19 (i := 12) rfl rfl (fun _ => ?_)
    refine xArg ?_
    refine lF I19 (i := 7) rfl rfl (fun _ => ?_)
    refine xArg ?_
    refine lF I19 (i := 8) rfl rfl (fun _ => ?_)
    refine xArgs ?_
    refine mkTuple I19 rfl fun r20 h20 I20 => ?_
    refine k _ _ _ I20.keep I20.glob (I20.fresh (i := 0) rfl) ?_
    unfold hueOf; simp only [if_neg e1, if_neg e2]; obtain ⟨ob, e, p⟩ := I20.has (i := 0) rfl; exact ⟨ob, e, _, _, p⟩
  · refine br_n (show _ from e0) ?_
    replace hdz := hdz.resolve_right e0
    refine xCons ?_
    refine xAssign ?_
    refine xBin ?_
    refine lF I7 (i := 6) rfl rfl (fun _ => ?_)
    refine xBin ?_
    refine xBin ?_
    refine cFloat fun _ _ => ?_
    refine lF I7 (i := 3) rfl rfl (fun _ => ?_)
    refine fSub fun _ _ => ?_
    refine lF I7 (i := 4) rfl rfl (fun _ => ?_)
    refine fSub fun _ _ => ?_
    refine fDiv hdz fun _ _ => ?_
    refine sF I7 (i := 8) rfl fun h21 t21 I21 => ?_
    simp only [setAt] at I21
    refine xNil ?_
    refine xCons ?_
    refine xAssign ?_
    refine xBin ?_
    refine xBin ?_
    refine lF I21 (i := 3) rfl rfl (fun _ => ?_)
    refine lF I21 (i := 0) rfl rfl (fun _ => ?_)
    refine fSub fun _ _ => ?_
    refine lF I21 (i := 6) rfl rfl (fun _ => ?_)
    refine fDiv hr fun _ _ => ?_
    refine sF I21 (i := 9) rfl fun h22 t22 I22 => ?_
    simp only [setAt] at I22
    refine xCons ?_
    refine xAssign ?_
    refine xBin ?_
    refine xBin ?_
    refine lF I22 (i := 3) rfl rfl (fun _ => ?_)
    refine lF I22 (i := 1) rfl rfl (fun _ => ?_)
    refine fSub fun _ _ => ?_
    refine lF I22 (i := 6) rfl rfl (fun _ => ?_)
    refine fDiv hr fun _ _ => ?_
    refine sF I22 (i := 10) rfl fun h23 t23 I23 => ?_
    simp only [setAt] at I23
    refine xCons ?_
    refine xAssign ?_
    refine xBin ?_
    refine xBin ?_
    refine lF I23 (i := 3) rfl rfl (fun _ => ?_)
    refine lF I23 (i := 2) rfl rfl (fun _ => ?_)
    refine fSub fun _ _ => ?_
    refine lF I23 (i := 6) rfl rfl (fun _ => ?_)
    refine fDiv hr fun _ _ => ?_
    refine sF I23 (i := 11) rfl fun h24 t24 I24 => ?_
    simp only [setAt] at I24
    refine xCons ?_
    refine xIf ?_
    refine xTest ?_
    refine lF I24 (i := 0) rfl rfl (fun _ => ?_)
    refine lF I24 (i := 3) rfl rfl (fun _ => ?_)
    refine fEq ?_
    refine tBool ?_
    by_cases e1 : feq x (fmax3 x y z) = true
    · refine br_t (show _ from e1) ?_
      refine xCons ?_
      refine xAssign ?_
      refine xBin ?_
      refine lF I24 (i := 11) rfl rfl (fun _ => ?_)
      refine lF I24 (i := 10) rfl rfl (fun _ => ?_)
      refine fSub fun _ _ => ?_
      refine sF I24 (i := 12) rfl fun h25 t25 I25 => ?_
      simp only [setAt] at I25
      refine xNil ?_
      refine xCons ?_
      refine xAssign ?_
      refine xBin ?_
      refine xBin ?_
      refine lF I25 (i := 12) rfl rfl (fun _ => ?_)
      refine cFloat fun _ _ => ?_
      refine fDiv hz6 fun _ _ => ?_
      refine cFloat fun _ _ => ?_
      refine fMod hz1 fun _ _ => ?_
      refine sF I25 (i := 12) rfl fun h26 t26 I26 => ?_
      simp only [setAt] at I26
      refine xCons ?_
      refine xReturn ?_
      refine xTuple ?_
      refine xArg ?_
      refine lF I26 (i := 12) rfl rfl (fun _ => ?_)
      refine xArg ?_
      refine lF I26 (i := 7) rfl rfl (fun _ => ?_)
      refine xArg ?_
      refine lF I26 (i := 8) rfl rfl (fun _ => ?_)
      refine xArgs ?_
      refine mkTuple I26 rfl fun r27 h27 I27 => ?_
      refine k _ _ _ I27.keep I27.glob (I27.fresh (i := 0) rfl) ?_
      unfold hueOf; simp only [if_pos e1]; obtain ⟨ob, e, p⟩ := I27.has (i := 0) rfl; exact ⟨ob, e, _, _, p⟩
    refine br_n (show _ from e1) ?_
    refine xCons ?_
    refine xIf ?_
    refine xTest ?_
    refine lF I24 (i := 1) rfl rfl (fun _ => ?_)
    refine lF I24 (i := 3) rfl rfl (fun _ => ?_)
    refine fEq ?_
    refine tBool ?_
    by_cases e2 : feq y (fmax3 x y z) = true
    · refine br_t (show _ from e2) ?_
      refine xCons ?_
      refine xAssign ?_
      refine xBin ?_
      refine xBin ?_
      refine cFloat fun _ _ => ?_
      refine lF I24 (i := 9) rfl rfl (fun _ => ?_)
      refine fAdd fun _ _ => ?_
      refine lF I24 (i := 11) rfl rfl (fun _ => ?_)
      refine fSub fun _ _ => ?_
      refine sF I24 (i := 12) rfl fun h28 t28 I28 => ?_
      simp only [setAt] at I28
      refine xNil ?_
      refine xNil ?_
      refine xCons ?_
      refine xAssign ?_
      refine xBin ?_
      refine xBin ?_
      refine lF I28 (i := 12) rfl rfl (fun _ => ?_)
      refine cFloat fun _ _ => ?_
      refine fDiv hz6 fun _ _ => ?_
      refine cFloat fun _ _ => ?_
      refine fMod hz1 fun _ _ => ?_
      refine sF I28 (i := 12) rfl fun h29 t29 I29 => ?_
      simp only [setAt] at I29
      refine xCons ?_
      refine xReturn ?_
      refine xTuple ?_
      refine xArg ?_
      refine lF I29 (i := 12) rfl rfl (fun _ => ?_)
      refine xArg ?_
      refine lF I29 (i := 7) rfl rfl (fun _ => ?_)
      refine xArg ?_
      refine lF I29 (i := 8) rfl rfl (fun _ => ?_)
      refine xArgs ?_
      refine mkTuple I29 rfl fun r30 h30 I30 => ?_
      refine k _ _ _ I30.keep I30.glob (I30.fresh (i := 0) rfl) ?_
      unfold hueOf; simp only [if_neg e1, if_pos e2]; obtain ⟨ob, e, p⟩ := I30.has (i := 0) rfl; exact ⟨ob, e, _, _, p⟩
    refine br_n (show _ from e2) ?_
    refine xCons ?_
    refine xAssign ?_
    refine xBin ?_
    refine xBin ?_
    refine cFloat fun _ _ => ?_
    refine lF I24 (i := 10) rfl rfl (fun _ => ?_)
    refine fAdd fun _ _ => ?_
    refine lF I24 (i := 9) rfl rfl (fun _ => ?_)
    refine fSub fun _ _ => ?_
    refine sF I24 (i := 12) rfl fun h31 t31 I31 => ?_
    simp only [setAt] at I31
    refine xNil ?_
    refine xNil ?_
    refine xCons ?_
    refine xAssign ?_
    refine xBin ?_
    refine xBin ?_
    refine lF I31 (i := 12) rfl rfl (fun _ => ?_)
    refine cFloat fun _ _ => ?_
    refine fDiv hz6 fun _ _ => ?_
    refine cFloat fun _ _ => ?_
    refine fMod hz1 fun _ _ => ?_
    refine sF I31 (i := 12) rfl fun h32 t32 I32 => ?_
    simp only [setAt] at I32
    refine xCons ?_
    refine xReturn ?_
    refine xTuple ?_
    refine xArg ?_
    refine lF I32 (i := 12) rfl rfl (fun _ => ?_)
    refine xArg ?_
    refine lF I32 (i := 7) rfl rfl (fun _ => ?_)
    refine xArg ?_
    refine lF I32 (i := 8) rfl rfl (fun _ => ?_)
    refine xArgs ?_
    refine mkTuple I32 rfl fun r33 h33 I33 => ?_
    refine k _ _ _ I33.keep I33.glob (I33.fresh (i := 0) rfl) ?_
    unfold hueOf; simp only [if_neg e1, if_neg e2]; obtain ⟨ob, e, p⟩ := I33.has (i := 0) rfl; exact ⟨ob, e, _, _, p⟩
end
end Mine
end PartMFlt

section PartMLoop
open PySem PySem.W PyProof.Rows
set_option autoImplicit false
set_option linter.unusedVariables false
namespace Mine

/-- the entries at these places -/
def picks {α : Type} (l : List α) : List Nat → Option (List α)
  | [] => some []
  | i :: is => match nth l i, picks l is with
    | some a, some r => some (a :: r)
    | _, _ => none
theorem picks_mem {α : Type} {l : List α} : ∀ {is : List Nat} {r : List α}, picks l is = some r → ∀ x ∈ r, ∃ i ∈ is, nth l i = some x
  | [], r, h, x, hx => by cases h; cases hx
  | i :: is, r, h, x, hx => by
    unfold picks at h
    split at h
    · rename_i a r' h1 h2
      cases h
      rcases List.mem_cons.mp hx with rfl | hx
      · exact ⟨i, .head _, h1⟩
      · obtain ⟨j, hj, e⟩ := picks_mem h2 x hx
        exact ⟨j, .tail _ hj, e⟩
    · cases h
theorem picks_nodup {l : Led} (hl : (l.map (·.1)).Nodup) : ∀ {is : List Nat} {r : Led}, is.Nodup → picks l is = some r → (r.map (·.1)).Nodup
  | [], r, _, h => by cases h; exact List.nodup_nil
  | i :: is, r, hn, h => by
    unfold picks at h
    split at h
    · rename_i a r' h1 h2
      cases h
      have hn' := List.nodup_cons.mp hn
      refine List.nodup_cons.mpr ⟨fun hm => ?_, picks_nodup hl hn'.2 h2⟩
      obtain ⟨p, hp, e⟩ := List.mem_map.mp hm
      obtain ⟨j, hj, ej⟩ := picks_mem h2 p hp
      have e1 := nth_map (fun p : Addr × (Obj → Prop) => p.1) ej
      have e2 := nth_map (fun p : Addr × (Obj → Prop) => p.1) h1
      have e3 : p.1 = a.1 := e
      rw [e3] at e1
      have := nth_inj hl e1 e2
      subst this
      exact hn'.1 hj
    · cases h

section
variable {G B h h' : Heap} {env : Env} {names : List Str} {vals : List V} {led led' : Led}
theorem Sta.pick (I : Sta G B env names vals led h) (is : List Nat) (hn : is.Nodup) (he : picks led is = some led') : Sta G B env names vals led' h := by
  refine { I with leds := fun p hp => ?_, dist := picks_nodup I.dist hn he }
  obtain ⟨i, _, e⟩ := picks_mem he p hp
  exact I.leds p (nth_mem e)
theorem Sta.tail {p : Addr × (Obj → Prop)} (I : Sta G B env names vals (p :: led) h) : Sta G B env names vals led h :=
  { I with leds := fun p hp => I.leds p (.tail _ hp), dist := (List.nodup_cons.mp I.dist).2 }
/-- the first entry is let go -/
theorem Sta.letGo {a : Addr} {P : Obj → Prop} (I : Sta G B env names vals ((a, P) :: led) h) (hc : ∀ o, P o → ¬ Codeish o) (s : ∀ b o, b ≠ a → h.get? b = some o → h'.get? b = some o) : Sta G B env names vals led h' := by
  obtain ⟨ha, hL, o, ho0, hp0⟩ := I.leds _ (.head _)
  have ne : ∀ b o, B.get? b = some o → b ≠ a := fun b o hb e => by rw [e] at hb; rw [ha] at hb; cases hb
  have f := I.gB.free ha
  refine ⟨?_, I.gB, I.low, fun b o e h1 h2 => s b o (ne b o e) (I.keep b o e h1 h2), ?_, I.nod, I.kinds, I.fn, ?_, (List.nodup_cons.mp I.dist).2⟩
  · refine I.glob.up fun b o e hb => s b o ?_ e
    rcases hb with hb | hb | hb | hb
    · exact ne b o (I.gB.keep _ _ hb)
    · rw [hb]; exact f.1.symm
    · rw [hb]; exact f.2.symm
    · rintro rfl
      rw [ho0] at e; cases e
      exact hc _ hp0 hb
  · obtain ⟨m, ⟨ob, es, ep, q, r⟩, hv⟩ := I.loc
    exact ⟨m, ⟨ob, es, ep, s _ _ (Ne.symm hL) q, r⟩, hv⟩
  · intro p hp
    obtain ⟨x, y, o2, ho2, hp2⟩ := I.leds p (.tail _ hp)
    refine ⟨x, y, o2, s _ _ (fun e' => ?_) ho2, hp2⟩
    exact (List.nodup_cons.mp I.dist).1 (List.mem_map.mpr ⟨p, hp, e'⟩)
end

@[reducible] def V.proper : V → Prop
  | .unb => False
  | .raw _ => False
  | _ => True
theorem V.proper.of {v : V} (h : v.proper) (u : Tok) : V.of (v.val u) = v := by
  cases v <;> first | rfl | exact h.elim

@[reducible] def BodyPost (N : Shared → Prop) (Q : Flow → Shared → Prop) : Flow → Shared → Prop
  | .next, s => N s
  | .cont, s => N s
  | .brk, s => Q .next s
  | .ret v, s => Q (.ret v) s

/-- the end of a loop's body -/
inductive LoopE (G B : Heap) (env : Env) (names : List Str) (g : Array GenState) (d : Drawn) (o : OsState) (its : Led) (Inv : List V → Led → Prop) (s' : Shared) : Prop
  | intro (h'' : Heap) (t'' : Nat) (vs' : List V) (ld' : Led) (e : s' = ⟨h'', g, d, t'' + 1, o⟩) (S : Sta G B env names vs' (its ++ ld') h'') (I : Inv vs' ld') : LoopE G B env names g d o its Inv s'
/-- some values -/
inductive Ex2 (P : V → V → Prop) : Prop | intro (a b : V) (h : P a b) : Ex2 P
inductive Ex3 (P : V → V → V → Prop) : Prop | intro (a b c : V) (h : P a b c) : Ex3 P
inductive Ex7 (P : V → V → V → V → V → V → V → Prop) : Prop | intro (a b c d e f g : V) (h : P a b c d e f g) : Ex7 P
inductive Ex9 (P : V → V → V → V → V → V → V → V → V → Prop) : Prop | intro (a b c d e f g h i : V) (x : P a b c d e f g h i) : Ex9 P
/-- what comes behind, hidden -/
theorem W.gen {prog : Program} {w : World} {A : Around} {α : Type} {tree : Sem α} {Q : α → Shared → Prop} {s : Shared} (h : ∀ QQ : α → Shared → Prop, (∀ a s', Q a s' → QQ a s') → W prog w A tree QQ s) : W prog w A tree Q s := h Q fun _ _ q => q

def LoopW (prog : Program) (w : World) (A : Around) (target : Expr) (body : List Stmt) (env : Env) (Q : Flow → Shared → Prop) (it : Value) (s : Shared) : Prop :=
  ∃ (J : Nat → Shared → Prop) (n : Nat), J n s ∧ ∀ n s, J n s → W prog w A (pyNext it) (fun r s₁ => match r with
    | none => Q .next s₁
    | some v => W prog w A (assign target env v) (fun _ s₂ => W prog w A (execs body env) (BodyPost (fun s₃ => ∃ m, m < n ∧ J m s₃) Q) s₂) s₁) s

section
variable {prog : Program} {w : World} {A : Around} {s : Shared} {env : Env}
theorem forLoop {R : Result → Shared → Prop} {target : Expr} {it : Value} {body : List Stmt} (h : LoopW prog w A target body env (fun f s' => R (.ok f) s') it s) (ht : ∀ v, letOwnedTupleGo target it v = pure ()) : codeAny (model prog w) A (.forLoop target it body [] env) R s := by
  obtain ⟨J, n, hj, turn⟩ := h
  refine codeAny_forLoop J (fun n s hJ => ?_) n hj ht
  refine wpAny_mono (turn n s hJ).out (fun r s₁ h₁ => ?_) fun _ _ q => q.elim
  cases r with
  | none => exact wpAny_execs_nil h₁
  | some v =>
    refine wpAny_mono (W.out h₁) (fun _ s₂ h₂ => wpAny_mono (W.out h₂) (fun f s₃ h₃ => ?_) fun _ _ q => q.elim) fun _ _ q => q.elim
    cases f <;> exact h₃
@[reducible] def For1 (prog : Program) (w : World) (A : Around) (target : Expr) (body : List Stmt) (env : Env) (Q : Flow → Shared → Prop) (xv : Value) (s : Shared) : Prop := W prog w A (pyIter xv) (LoopW prog w A target body env Q) s
theorem xFor {x : Str} {px pos : Pos} {iter : Expr} {body : List Stmt} {Q : Flow → Shared → Prop} (h : W prog w A (eval iter env) (For1 prog w A (.Name x px) body env Q) s)
    (hs : ∀ x, foldedSetIterable iter env x = pure x := by intro _; kernel_rfl) : W prog w A (exec (.For (.Name x px) iter body [] pos) env) Q s :=
  .of (wpAny_For (wpAny_mono h.out (fun xv s₁ h₁ => wpAny_mono (W.out h₁) (fun it s₂ h₂ => forLoop h₂ (by intro _; rfl)) fun _ _ q => q) fun _ _ q => q) hs)
end

/-- an iterator at a, of n items -/
structure Iter (prog : Program) (w : World) (A : Around) (a : Addr) (n : Nat) (P : Nat → V → Prop) (St : Nat → Obj → Prop) (Aux : Heap → Prop) : Prop where
  nc : ∀ i o, St i o → ¬ Codeish o
  proper : ∀ i v, P i v → v.proper
  item : ∀ i h g d t o (Q : Option Value → Shared → Prop), i < n → Aux h → Has h a (St i) →
    (∀ h' t' v u, t ≤ t' → P i v → (∀ b o, b ≠ a → h.get? b = some o → h'.get? b = some o) → Has h' a (St (i + 1)) → Q (some (v.val u)) ⟨h', g, d, t', o⟩) → W prog w A (pyNext (.ref a)) Q ⟨h, g, d, t, o⟩
  done : ∀ h g d t o (Q : Option Value → Shared → Prop), Aux h → Has h a (St n) →
    (∀ h' t', t ≤ t' → (∀ b o, b ≠ a → h.get? b = some o → h'.get? b = some o) → Q none ⟨h', g, d, t', o⟩) → W prog w A (pyNext (.ref a)) Q ⟨h, g, d, t, o⟩
  self : ∀ i s (Q : Value → Shared → Prop), Has s.heap a (St i) → Q (.ref a) s → W prog w A (pyIter (.ref a)) Q s

section
variable {prog : Program} {w : World} {A : Around} {G B h : Heap} {g : Array GenState} {d : Drawn} {t : Nat} {o : OsState} {env : Env} {names : List Str} {vals : List V} {led : Led}

theorem loop {a : Addr} {n : Nat} {P : Nat → V → Prop} {St : Nat → Obj → Prop} {Aux : Heap → Prop} {ix : Nat} {x : Str} {px : Pos} {body : List Stmt} {Q : Flow → Shared → Prop} (It : Iter prog w A a n P St Aux)
    (hx : nth names ix = some x) (Inv : Nat → List V → Led → Prop) (I : Sta G B env names vals ((a, St 0) :: led) h) (h0 : Inv 0 vals led)
    (aux : ∀ i vs ld h', Inv i vs ld → Sta G B env names vs ld h' → Aux h')
    (step : ∀ i v vs ld h' t', i < n → P i v → Inv i vs ld → Sta G B env names (setAt vs ix v) ((a, St (i + 1)) :: ld) h' →
      W prog w A (execs body env) (BodyPost (LoopE G B env names g d o [(a, St (i + 1))] (Inv (i + 1))) Q) ⟨h', g, d, t' + 1, o⟩)
    (done : ∀ vs ld h' t', Inv n vs ld → Sta G B env names vs ld h' → Q .next ⟨h', g, d, t' + 1, o⟩) : LoopW prog w A (.Name x px) body env Q (.ref a) ⟨h, g, d, t + 1, o⟩ := by
  refine ⟨fun k s => ∃ i h' t' vs ld, k = n - i ∧ i ≤ n ∧ s = ⟨h', g, d, t' + 1, o⟩ ∧ Sta G B env names vs ((a, St i) :: ld) h' ∧ Inv i vs ld, n, ⟨0, h, t, vals, led, rfl, Nat.zero_le _, rfl, I, h0⟩, ?_⟩
  rintro k s ⟨i, h', t', vs, ld, rfl, hi, rfl, J, hI⟩
  have Jt : Sta G B env names vs ld h' := J.tail
  have hA := aux i vs ld h' hI Jt
  by_cases hlt : i < n
  · refine It.item i h' g d (t' + 1) o _ hlt hA (J.has (i := 0) rfl) fun h₁ t₁ v u hle hP hk hst => ?_
    obtain ⟨t₁, rfl⟩ := pos_ex hle
    obtain ⟨ob, e, hob⟩ := hst
    have J₁ : Sta G B env names vs ((a, St (i + 1)) :: ld) h₁ := J.upd (i := 0) rfl (It.nc i) hk e hob
    refine .of (wpAny_assign_Name (W.out (store J₁ hx fun h₂ t₂ J₂ => ?_)))
    rw [(It.proper i v hP).of u] at J₂
    refine (step i v vs ld h₂ t₂ hlt hP hI J₂).mono fun f s' q => ?_
    cases f with
    | next => obtain ⟨h'', t'', vs', ld', rfl, S, V⟩ := q; exact ⟨n - (i + 1), by lia, i + 1, h'', t'', vs', ld', rfl, hlt, rfl, S, V⟩
    | cont => obtain ⟨h'', t'', vs', ld', rfl, S, V⟩ := q; exact ⟨n - (i + 1), by lia, i + 1, h'', t'', vs', ld', rfl, hlt, rfl, S, V⟩
    | brk => exact q
    | ret v => exact q
  · have e : i = n := by lia
    subst e
    refine It.done h' g d (t' + 1) o _ hA (J.has (i := 0) rfl) fun h₁ t₁ hle hk => ?_
    obtain ⟨t₁, rfl⟩ := pos_ex hle
    exact done vs ld h₁ t₁ hI (J.letGo (It.nc i) hk)

def ItL (l : Addr) (i : Nat) (o : Obj) : Prop := o.cls = .type "list_iterator" ∧ o.data = .fields #[.ref l, .int i 0]
def ItR (a : Int) (n : Nat) (i : Nat) (o : Obj) : Prop := o = { cls := .type "range_iterator", dict := none, data := .fields #[rawInt (a + i), rawInt ((n : Int) - i), rawInt 1], slots := #[] }
def ItV (l : Addr) (n : Nat) (i : Nat) (o : Obj) : Prop := o.cls = .type "list_reverseiterator" ∧ o.data = .fields #[.ref l, rawInt ((n : Int) - 1 - i)]

theorem iterL (hh : A.handled = none) (a l : Addr) (ds : List V) (hp : ∀ v ∈ ds, v.proper) : Iter prog w A a ds.length (fun i v => ds[i]? = some v) (ItL l) (fun h => Has h l (LstR ds)) where
  nc := fun i ob x => by
    rintro ⟨vs, q, t, hd, hv⟩
    rw [x.2] at hd; cases hd; simp at hv
  proper := fun i v hv => hp v (List.mem_of_getElem? hv)
  item := fun i h g d t o Q hi hA hs k => by
    obtain ⟨ob, e, c1, c2⟩ := hs
    obtain ⟨vs, hl, hv⟩ := hA.isListR
    obtain ⟨v, hv'⟩ : ∃ v, ds[i]? = some v := ⟨ds[i], by simp [hi]⟩
    obtain ⟨u, hu⟩ := hv.get hv'
    refine .of (wpAny_pyNext_list_item ⟨ob, e, c1, c2⟩ hl (by simpa using hu) fun h' hit hs' => ?_)
    obtain ⟨ob', e', r⟩ := hit
    exact k h' t v u (Nat.le_refl _) hv' (fun b o hb e => (hs'.2 b hb).trans e) ⟨ob', e', r⟩
  done := fun h g d t o Q hA hs k => by
    obtain ⟨ob, e, c1, c2⟩ := hs
    obtain ⟨vs, hl, hv⟩ := hA.isListR
    exact .of (wpAny_pyNext_list_end hh ⟨ob, e, c1, c2⟩ hl (by simp [hv.length]) fun h' he => k h' t (Nat.le_refl _) he)
  self := fun i s Q hs k => by
    obtain ⟨ob, e, c1, c2⟩ := hs
    exact .of (wpAny_pyIter_listiter (i := i) ⟨ob, e, c1, c2⟩ k)
theorem iterR (hh : A.handled = none) (a : Addr) (x : Int) (n : Nat) : Iter prog w A a n (fun i v => v = .int (x + i)) (ItR x n) (fun _ => True) where
  nc := fun i ob y => by
    rintro ⟨vs, q, t, hd, hv⟩
    rw [y] at hd; cases hd; simp [rawInt] at hv
  proper := fun i v hv => by rw [hv]; trivial
  item := fun i h g d t o Q hi hA hs k => by
    obtain ⟨ob, e, rfl⟩ := hs
    refine .of (wpAny_pyNext_range_item e (by lia) fun h' hit hs' => ?_)
    refine k h' _ _ _ (Nat.le_succ _) rfl (fun b o hb e => (hs'.2 b hb).trans e) ⟨_, hit, ?_⟩
    unfold ItR
    have e1 : x + (i : Int) + 1 = x + ((i + 1 : Nat) : Int) := by lia
    have e2 : (n : Int) - (i : Int) - 1 = (n : Int) - ((i + 1 : Nat) : Int) := by lia
    rw [e1, e2]
  done := fun h g d t o Q hA hs k => by
    obtain ⟨ob, e, rfl⟩ := hs
    exact .of (wpAny_pyNext_range_end hh e (by lia) fun h' he => k h' t (Nat.le_refl _) he)
  self := fun i s Q hs k => by
    obtain ⟨ob, e, rfl⟩ := hs
    exact .of (wpAny_pyIter_rangeiter e k)
theorem iterV (hh : A.handled = none) (a l : Addr) (ds : List V) (hp : ∀ v ∈ ds, v.proper) : Iter prog w A a ds.length (fun i v => i < ds.length ∧ ds[ds.length - 1 - i]? = some v) (ItV l ds.length) (fun h => Has h l (LstR ds)) where
  nc := fun i ob x => by
    rintro ⟨vs, q, t, hd, hv⟩
    rw [x.2] at hd; cases hd; simp [rawInt] at hv
  proper := fun i v hv => hp v (List.mem_of_getElem? hv.2)
  item := fun i h g d t o Q hi hA hs k => by
    obtain ⟨ob, e, c1, c2⟩ := hs
    obtain ⟨vs, hl, hv⟩ := hA.isListR
    obtain ⟨v, hv'⟩ : ∃ v, ds[ds.length - 1 - i]? = some v := ⟨ds[ds.length - 1 - i]'(by lia), by rw [List.getElem?_eq_getElem]⟩
    obtain ⟨u, hu⟩ := hv.get hv'
    have ei : (ds.length : Int) - 1 - (i : Int) = ((ds.length - 1 - i : Nat) : Int) := by lia
    rw [ei] at c2
    refine .of (wpAny_pyNext_rev_item ⟨ob, e, c1, c2⟩ hl (by simpa using hu) fun h' hit hs' => ?_)
    obtain ⟨ob', e', r1, r2⟩ := hit
    refine k h' t v u (Nat.le_refl _) ⟨hi, hv'⟩ (fun b o hb e => (hs'.2 b hb).trans e) ⟨ob', e', r1, ?_⟩
    have e2 : ((ds.length - 1 - i : Nat) : Int) - 1 = (ds.length : Int) - 1 - ((i + 1 : Nat) : Int) := by lia
    rw [e2] at r2; exact r2
  done := fun h g d t o Q hA hs k => by
    obtain ⟨ob, e, c1, c2⟩ := hs
    have e2 : (ds.length : Int) - 1 - ((ds.length : Nat) : Int) = -1 := by lia
    rw [e2] at c2
    exact .of (wpAny_pyNext_rev_end hh ⟨ob, e, c1, c2⟩ fun h' he => k h' t (Nat.le_refl _) he)
  self := fun i s Q hs k => by
    obtain ⟨ob, e, c1, c2⟩ := hs
    exact .of (wpAny_pyIter_revIter ⟨ob, e, c1, c2⟩ k)

/-- the iterator of a list -/
theorem pIterL {l : Addr} {ds : List V} {Q : Value → Shared → Prop} (I : Sta G B env names vals led h) (hl : Has h l (LstR ds)) (k : ∀ a h', Sta G B env names vals ((a, ItL l 0) :: led) h' → Q (.ref a) ⟨h', g, d, t, o⟩) :
    W prog w A (pyIter (.ref l)) Q ⟨h, g, d, t, o⟩ := by
  obtain ⟨vs, hl', hv⟩ := hl.isListR
  exact .of (wpAny_pyIter_list hl' (k _ _ (I.pushK (fun _ _ e => Heap.get?_push_of_some _ e) (none_size h) (Heap.get?_push_size _ rfl) ⟨rfl, rfl⟩)))
end
end Mine
end PartMLoop

section PartMSeq
open PySem PySem.W PyProof.Rows
set_option autoImplicit false
set_option linter.unusedVariables false
namespace Mine

/-- every live object but the frame's -/
def everything (h : Heap) (L : Addr) : List (Addr × Obj) := (List.range h.objs.size).filterMap fun a => if a = L then none else (h.get? a).map fun o => (a, o)
theorem mem_everything {h : Heap} {L a : Addr} {o : Obj} (e : h.get? a = some o) (n : a ≠ L) : (a, o) ∈ everything h L :=
  List.mem_filterMap.mpr ⟨a, List.mem_range.mpr (Heap.lt_size e), by rw [if_neg n, e]; rfl⟩
theorem of_everything {h : Heap} {L : Addr} {p : Addr × Obj} (x : p ∈ everything h L) : h.get? p.1 = some p.2 ∧ p.1 ≠ L := by
  obtain ⟨a, _, e⟩ := List.mem_filterMap.mp x
  split at e
  · cases e
  · rename_i n
    cases q : h.get? a with
    | none => rw [q] at e; cases e
    | some o => rw [q] at e; cases e; exact ⟨q, n⟩
theorem empty_get (a : Addr) : ({} : Heap).get? a = none := by
  cases q : ({} : Heap).get? a with
  | none => rfl
  | some o => exact absurd (Heap.lt_size q) (Nat.not_lt_zero _)

section
variable {G B h h' : Heap} {env : Env} {names : List Str} {vals : List V} {led : Led}
/-- the frame's facts in the library's words -/
theorem Sta.fr (I : Sta G B env names vals led h) : ∃ m, Fr {} env.locals h m ∧ News {} env.locals h (everything h env.locals) ∧
    ∀ h' own, Fr {} env.locals h' m → News {} env.locals h' (own ++ everything h env.locals) → (∀ b o, b ≠ env.locals → h.get? b = some o → h'.get? b = some o) ∧ Sta G B env names vals led h' := by
  obtain ⟨m, n, hm⟩ := I.loc
  refine ⟨m, ⟨n, (fun b o e => by rw [empty_get] at e; cases e), Nat.zero_le _⟩, fun p hp => ⟨(of_everything hp).1, (of_everything hp).2, empty_get _⟩, fun h' own F N => ?_⟩
  have k : ∀ b o, b ≠ env.locals → h.get? b = some o → h'.get? b = some o := fun b o hb e => (N _ (List.mem_append_right _ (mem_everything e hb))).1
  exact ⟨k, I.relocal k ⟨m, F.ns, hm⟩⟩
theorem Sta.frPush (I : Sta G B env names vals led h) {m : Str → Option Value} {r : Addr} {ob : Obj} {P : Obj → Prop} (hf : (∀ b o, b ≠ env.locals → h.get? b = some o → h'.get? b = some o) ∧ Sta G B env names vals led h')
    (hr : h.get? r = none) (e : h'.get? r = some ob) (hP : P ob) : Sta G B env names vals ((r, P) :: led) h' := by
  obtain ⟨k, J⟩ := hf
  have nl : r ≠ env.locals := by
    rintro rfl
    obtain ⟨o, q, _⟩ := I.live
    rw [hr] at q; cases q
  refine { J with leds := fun p hp => ?_, dist := ?_ }
  · rcases List.mem_cons.mp hp with rfl | hp
    · exact ⟨I.free hr, nl, ob, e, hP⟩
    · exact J.leds p hp
  · refine List.nodup_cons.mpr ⟨fun hm => ?_, J.dist⟩
    obtain ⟨p, hp, ep⟩ := List.mem_map.mp hm
    obtain ⟨_, _, o', ho', _⟩ := I.leds p hp
    have ep' : p.1 = r := ep
    rw [ep', hr] at ho'; cases ho'
end

section
variable {prog : Program} {w : World} {A : Around} {s : Shared} {env : Env} {R : Value → Shared → Prop} {Q : Flow → Shared → Prop}
@[reducible] def Sub2 (prog : Program) (w : World) (A : Around) (value slice : Expr) (R : Value → Shared → Prop) (ov iv : Value) (s : Shared) : Prop := W prog w A (subscriptTail value slice ov iv) R s
@[reducible] def Sub1 (prog : Program) (w : World) (A : Around) (value slice : Expr) (env : Env) (R : Value → Shared → Prop) (ov : Value) (s : Shared) : Prop := W prog w A (eval slice env) (Sub2 prog w A value slice R ov) s
theorem xSub {value slice : Expr} {pos : Pos} (h : W prog w A (eval value env) (Sub1 prog w A value slice env R) s) : W prog w A (eval (.Subscript value slice pos) env) R s :=
  .of (Subscript_ (wpAny_mono h.out (fun _ _ q => wpAny_mono (W.out q) (fun _ _ q => W.out q) fun _ _ q => q) fun _ _ q => q))
theorem xAugSub {e i : Expr} {pos' pos : Pos} {op : Operator} {value : Expr} (h : W prog w A (eval e env) (fun ov s₁ => W prog w A (eval i env) (fun iv s₂ => W prog w A (getItem ov iv) (fun old s₃ =>
      W prog w A (eval value env) (fun v s₄ => W prog w A (inplaceOp op old v) (fun new s₅ => W prog w A (setItem ov iv new) (fun _ => Q .next) s₅) s₄) s₃) s₂) s₁) s)
    (ha : ∀ ov iv new, augStore i ov iv new = (do holding [new, ov, iv] (setItem ov iv new); release [new, ov, iv] []; pure .next) := by intro _ _ _; rfl) :
    W prog w A (exec (.AugAssign (.Subscript e i pos') op value pos) env) Q s :=
  .of (wpAny_AugAssign_Subscript_any (wpAny_mono h.out (fun _ _ q => wpAny_mono q.out (fun _ _ q => wpAny_mono q.out (fun _ _ q => wpAny_mono q.out (fun _ _ q => wpAny_mono q.out (fun _ _ q => q.out)
    fun _ _ q => q) fun _ _ q => q) fun _ _ q => q) fun _ _ q => q) fun _ _ q => q) ha)
@[reducible] def SliceK (R : Value → Shared → Prop) (l u : Value) : Shared → Prop
  | ⟨h, g, d, t, o⟩ => R (.ref h.objs.size) ⟨h.push { cls := .type "slice", data := .fields #[l, u, .none] }, g, d, t, o⟩
theorem xSlice {lower upper : Option Expr} {pos : Pos} (h : W prog w A (evalPart lower env) (fun l s₁ => W prog w A (evalPart upper env) (fun u s₂ => SliceK R l u s₂) s₁) s) :
    W prog w A (eval (.Slice lower upper none pos) env) R s :=
  .of (wpAny_Slice (wpAny_mono h.out (fun _ _ q => wpAny_mono q.out (fun _ _ q => evalPart_none_step q) fun _ _ q => q) fun _ _ q => q))
theorem xPart0 (h : R .none s) : W prog w A (evalPart none env) R s := .of (evalPart_none_step h)
theorem xPart {e : Expr} (h : W prog w A (eval e env) R s) : W prog w A (evalPart (some e) env) R s := .of (evalPart_some_step h.out)
end

section
variable {prog : Program} {w : World} {A : Around} {G B h : Heap} {g : Array GenState} {d : Drawn} {t : Nat} {o : OsState} {env : Env} {names : List Str} {vals : List V} {led : Led} {Q : Value → Shared → Prop} {u : Tok}

/-- xs[k] -/
theorem gList {l : Addr} {ds : List V} {k : Int} {v : V} (hl : Has h l (LstR ds)) (h0 : 0 ≤ k) (hf : k < 2 ^ 63) (hv : ds[k.toNat]? = some v) (c : ∀ u', Q (v.val u') ⟨h, g, d, t, o⟩) : W prog w A (getItem (.ref l) (.int k u)) Q ⟨h, g, d, t, o⟩ := by
  obtain ⟨vs, hl', hv'⟩ := hl.isListR
  obtain ⟨u', e⟩ := hv'.get hv
  exact .of (wpAny_getItem_list hl' h0 hf (by simpa using e) (c u'))
theorem tList {value slice : Expr} {l : Addr} {ds : List V} {k : Int} {v : V} (hl : Has h l (LstR ds)) (h0 : 0 ≤ k) (hf : k < 2 ^ 63) (hv : ds[k.toNat]? = some v) (c : ∀ u', Q (v.val u') ⟨h, g, d, t, o⟩)
    (hs : subscripted slice false (.ref l) (.int k u) = operate [.ref l, .int k u] (getItem (.ref l) (.int k u)) := by with_unfolding_all rfl) : W prog w A (subscriptTail value slice (.ref l) (.int k u)) Q ⟨h, g, d, t, o⟩ := by
  obtain ⟨vs, hl', hv'⟩ := hl.isListR
  exact .of (tail_any (s := ⟨h, g, d, t, o⟩) hl'.typeIs slot_list_getitem.lookup (gList hl h0 hf hv c).out hs)
/-- xs[lo:hi] -/
theorem tSlice {value slice : Expr} {l : Addr} {ds : List V} {vl vu : Value} {lo hi : Option Int} (I : Sta G B env names vals led h) (hl : Has h l (LstR ds)) (pl : IsPart vl lo) (pu : IsPart vu hi) (hsz : ds.length ≤ sizeLine)
    (c : ∀ r h', Sta G B env names vals ((r, Lst ((ds.drop (lo.elim 0 (clipAt ds.length))).take (hi.elim ds.length (clipAt ds.length) - lo.elim 0 (clipAt ds.length)))) :: led) h' → Q (.ref r) ⟨h', g, d, t, o⟩)
    (hs : subscripted slice false (.ref l) (.ref h.objs.size) = operate [.ref h.objs.size, .ref l] (getItem (.ref l) (.ref h.objs.size)) := by with_unfolding_all rfl) :
    W prog w A (subscriptTail value slice (.ref l) (.ref h.objs.size)) Q ⟨h.push { cls := .type "slice", data := .fields #[vl, vu, .none] }, g, d, t, o⟩ := by
  obtain ⟨vs, hl', hv'⟩ := hl.isListR
  have I1 : Sta G B env names vals led (h.push { cls := .type "slice", data := .fields #[vl, vu, .none] }) := I.ext fun _ _ e => Heap.get?_push_of_some _ e
  refine .of (tail_any (s := ⟨h.push { cls := .type "slice", data := .fields #[vl, vu, .none] }, g, d, t, o⟩) (hl'.push _).typeIs list_getitem_lookup
    (wpAny_getItem_list_slice (hl'.push _) (Heap.IsSliceOf.new ..) pl pu .none (by simp) ?_ (by simp [hv'.length]; exact hsz)) hs)
  refine c _ _ (I1.pushK (o := { cls := .type "list", data := .seq (slicePick vs.toArray lo hi none) }) (fun _ _ e => Heap.get?_push_of_some _ e) (none_size _) (Heap.get?_push_size _ rfl) ⟨_, _, rfl, ?_⟩)
  rw [slicePick_plain]
  simp only [List.size_toArray, hv'.length]
  exact (hv'.drop _).take _
theorem sList {l : Addr} {ds : List V} {k : Int} {v : Value} {i : Nat} {R : Unit → Shared → Prop} (I : Sta G B env names vals led h) (hi : nth led i = some (l, LstR ds)) (h0 : 0 ≤ k) (hf : k < 2 ^ 63) (hn : k < ds.length)
    (c : ∀ h', Sta G B env names vals (setAt led i (l, LstR (ds.set k.toNat (V.of v)))) h' → R () ⟨h', g, d, t, o⟩) : W prog w A (setItem (.ref l) (.int k u) v) R ⟨h, g, d, t, o⟩ := by
  obtain ⟨vs, hl', hv'⟩ := (I.has hi).isListR
  refine .of (wpAny_setItem_list hl' h0 hf (by simpa [hv'.length] using hn) fun h' hl2 hs => ?_)
  obtain ⟨ob, e, c1, n, c2⟩ := hl2
  refine c h' (I.upd hi (fun o => LstR.nc o) (fun b o hb e => (hs.2 b hb).trans e) e ⟨c1, _, n, c2, ?_⟩)
  have : ∀ {vs : List Value} {ds : List V} (k : Nat), Vals vs ds → Vals (vs.set k v) (ds.set k (V.of v)) := by
    intro vs ds k hv
    induction hv generalizing k with
    | nil => exact .nil
    | cons dd tt h ih =>
      cases k with
      | zero =>
        obtain ⟨u, e⟩ := V.of_val v
        have q := Vals.cons (V.of v) u h
        rw [← e] at q
        exact q
      | succ k => exact .cons dd tt (ih k)
  simpa using this k.toNat hv'
theorem iPow {a b : Int} {ta tb : Tok} (h0 : 0 < b) (ha : 1 < a) (hb : Builtin.Int.intTooBig (((Builtin.Int.intBits a : Nat) : Int) * b) = false) (c : ∀ u t', Q (.int (a ^ b.toNat) u) ⟨h, g, d, t' + 1, o⟩) : W prog w A (binaryOp .Pow (.int a ta) (.int b tb)) Q ⟨h, g, d, t + 1, o⟩ :=
  .of (AutoIntOps.pow_4 (by lia) (by simp; lia) (by simp; lia) (by simp; lia) (by simp [hb]) (c _ _))
end
end Mine
end PartMSeq

section PartMTup
open PySem PySem.W PyProof.Rows
set_option autoImplicit false
set_option linter.unusedVariables false
namespace Mine
section
variable {prog : Program} {w : World} {A : Around} {G B h : Heap} {g : Array GenState} {d : Drawn} {t : Nat} {o : OsState} {env : Env} {names : List Str} {vals : List V} {led : Led} {Q : Flow → Shared → Prop} {R : Unit → Shared → Prop}

@[reducible] def AsgT (prog : Program) (w : World) (A : Around) (elts : List Expr) (k : Nat) (tpos : Pos) (env : Env) (Q : Flow → Shared → Prop) (v : Value) (s : Shared) : Prop := W prog w A (assign (.Tuple elts k tpos) env v) (NextK Q) s
theorem xAssignT {elts : List Expr} {k : Nat} {tpos pos : Pos} {value : Expr} {s : Shared} (h : W prog w A (eval value env) (AsgT prog w A elts k tpos env Q) s)
    (hs : swapsWithSole [.Tuple elts k tpos] value pos.line env = pure false := by kernel_rfl) (hw : swappedStores [.Tuple elts k tpos] value env = pure none := by kernel_rfl) : W prog w A (exec (.Assign [.Tuple elts k tpos] value pos) env) Q s :=
  .of (Assign_Tuple (wpAny_mono h.out (fun _ _ q => W.out q) fun _ _ q => q) hs hw)

/-- a, b = T -/
theorem aTup2 {T : Addr} {d1 d2 : V} {i1 i2 : Nat} {x1 x2 : Str} {p1 p2 pos : Pos} {k : Nat} (hh : A.handled = none) (I : Sta G B env names vals led h) (hT : Has h T (Tup [d1, d2])) (q1 : d1.proper) (q2 : d2.proper)
    (hi1 : nth names i1 = some x1) (hi2 : nth names i2 = some x2) (c : ∀ h' t', Sta G B env names (setAt (setAt vals i1 d1) i2 d2) led h' → R () ⟨h', g, d, t' + 1, o⟩) :
    W prog w A (assign (.Tuple [.Name x1 p1, .Name x2 p2] k pos) env (.ref T)) R ⟨h, g, d, t + 1, o⟩ := by
  obtain ⟨vs, ht, hv⟩ := hT.isTuple
  cases hv with
  | cons d1 u1 hv =>
    cases hv with
    | cons d2 u2 hv =>
      cases hv
      refine .of (wpAny_assign_Tuple hh ht rfl rfl fun h₃ hx₃ => ?_)
      have I₃ : Sta G B env names vals led h₃ := I.ext fun b o e => hx₃ b o (Nat.ne_of_lt (Heap.lt_size e)) e
      show wpAny _ A (do holding [d2.val u2] (assign (.Name x1 p1) env (d1.val u1)); do holding [] (assign (.Name x2 p2) env (d2.val u2)); pure ()) _ _ _
      refine wpAny_bind (wpAny_holding (wpAny_assign_Name (W.out (store I₃ hi1 fun h₄ t₄ I₄ => ?_))))
      refine wpAny_bind (wpAny_holding (wpAny_assign_Name (W.out (store I₄ hi2 fun h₅ t₅ I₅ => wpAny_pure ?_))))
      rw [q1.of, q2.of] at I₅
      exact c _ _ I₅
/-- a, b, c = T -/
theorem aTup3 {T : Addr} {d1 d2 d3 : V} {i1 i2 i3 : Nat} {x1 x2 x3 : Str} {p1 p2 p3 pos : Pos} {k : Nat} (hh : A.handled = none) (I : Sta G B env names vals led h) (hT : Has h T (Tup [d1, d2, d3])) (q1 : d1.proper) (q2 : d2.proper) (q3 : d3.proper)
    (hi1 : nth names i1 = some x1) (hi2 : nth names i2 = some x2) (hi3 : nth names i3 = some x3) (c : ∀ h' t', Sta G B env names (setAt (setAt (setAt vals i1 d1) i2 d2) i3 d3) led h' → R () ⟨h', g, d, t' + 1, o⟩) :
    W prog w A (assign (.Tuple [.Name x1 p1, .Name x2 p2, .Name x3 p3] k pos) env (.ref T)) R ⟨h, g, d, t + 1, o⟩ := by
  obtain ⟨vs, ht, hv⟩ := hT.isTuple
  cases hv with
  | cons d1 u1 hv =>
    cases hv with
    | cons d2 u2 hv =>
      cases hv with
      | cons d3 u3 hv =>
        cases hv
        refine .of (wpAny_assign_Tuple hh ht rfl rfl fun h₃ hx₃ => ?_)
        have I₃ : Sta G B env names vals led h₃ := I.ext fun b o e => hx₃ b o (Nat.ne_of_lt (Heap.lt_size e)) e
        show wpAny _ A (do holding [d2.val u2, d3.val u3] (assign (.Name x1 p1) env (d1.val u1)); do holding [d3.val u3] (assign (.Name x2 p2) env (d2.val u2)); do holding [] (assign (.Name x3 p3) env (d3.val u3)); pure ()) _ _ _
        refine wpAny_bind (wpAny_holding (wpAny_assign_Name (W.out (store I₃ hi1 fun h₄ t₄ I₄ => ?_))))
        refine wpAny_bind (wpAny_holding (wpAny_assign_Name (W.out (store I₄ hi2 fun h₅ t₅ I₅ => ?_))))
        refine wpAny_bind (wpAny_holding (wpAny_assign_Name (W.out (store I₅ hi3 fun h₆ t₆ I₆ => wpAny_pure ?_))))
        rw [q1.of, q2.of, q3.of] at I₆
        exact c _ _ I₆

theorem Sta.swap {p q : Addr × (Obj → Prop)} (I : Sta G B env names vals (p :: q :: led) h) : Sta G B env names vals (q :: p :: led) h := by
  refine { I with leds := fun x hx => I.leds x ?_, dist := ?_ }
  · simp only [List.mem_cons] at hx ⊢
    rcases hx with e | e | e <;> simp [e]
  · have D := I.dist
    simp only [List.map_cons, List.nodup_cons, List.mem_cons, not_or] at D ⊢
    exact ⟨⟨Ne.symm D.1.1, D.2.1⟩, D.1.2, D.2.2⟩

theorem Sta.two {h' : Heap} {a1 a2 : Addr} {P1 P2 P1' P2' : Obj → Prop} (I : Sta G B env names vals ((a1, P1) :: (a2, P2) :: led) h) (n1 : ∀ o, P1 o → ¬ Codeish o) (n2 : ∀ o, P2 o → ¬ Codeish o)
    (s : ∀ b o, b ≠ a1 → b ≠ a2 → h.get? b = some o → h'.get? b = some o) (e1 : Has h' a1 P1') (e2 : Has h' a2 P2') : Sta G B env names vals ((a1, P1') :: (a2, P2') :: led) h' := by
  obtain ⟨b1, l1, o1, g1, p1⟩ := I.leds _ (.head _)
  obtain ⟨b2, l2, o2, g2, p2⟩ := I.leds _ (.tail _ (.head _))
  have ne1 : ∀ b o, B.get? b = some o → b ≠ a1 := fun b o hb e => by rw [e] at hb; rw [b1] at hb; cases hb
  have ne2 : ∀ b o, B.get? b = some o → b ≠ a2 := fun b o hb e => by rw [e] at hb; rw [b2] at hb; cases hb
  have f1 := I.gB.free b1
  have f2 := I.gB.free b2
  refine ⟨?_, I.gB, I.low, fun b o e h1 h2 => s b o (ne1 b o e) (ne2 b o e) (I.keep b o e h1 h2), ?_, I.nod, I.kinds, I.fn, ?_, I.dist⟩
  · refine I.glob.up fun b o e hb => s b o ?_ ?_ e
    · rcases hb with hb | hb | hb | hb
      · exact ne1 b o (I.gB.keep _ _ hb)
      · rw [hb]; exact f1.1.symm
      · rw [hb]; exact f1.2.symm
      · rintro rfl; rw [g1] at e; cases e; exact n1 _ p1 hb
    · rcases hb with hb | hb | hb | hb
      · exact ne2 b o (I.gB.keep _ _ hb)
      · rw [hb]; exact f2.1.symm
      · rw [hb]; exact f2.2.symm
      · rintro rfl; rw [g2] at e; cases e; exact n2 _ p2 hb
  · obtain ⟨m, ⟨ob, es, ep, q, r⟩, hv⟩ := I.loc
    exact ⟨m, ⟨ob, es, ep, s _ _ (Ne.symm l1) (Ne.symm l2) q, r⟩, hv⟩
  · intro p hp
    rcases List.mem_cons.mp hp with rfl | hp
    · exact ⟨b1, l1, e1⟩
    · rcases List.mem_cons.mp hp with rfl | hp
      · exact ⟨b2, l2, e2⟩
      · obtain ⟨x, y, o', ho', hp'⟩ := I.leds p (.tail _ (.tail _ hp))
        have D := I.dist
        have d1 := (List.nodup_cons.mp D).1
        have d2 := (List.nodup_cons.mp (List.nodup_cons.mp D).2).1
        refine ⟨x, y, o', s _ _ (fun e => d1 ?_) (fun e => d2 ?_) ho', hp'⟩
        · exact List.mem_map.mpr ⟨p, .tail _ hp, e⟩
        · exact List.mem_map.mpr ⟨p, hp, e⟩

def EnSt (it : Addr) (i : Nat) (o : Obj) : Prop := ∃ old, o = { cls := .type "enumerate", dict := none, data := .fields #[.none, .bool false, .ref it, rawInt i, .none, old], slots := #[] }
def EnOut (o : Obj) : Prop := ∃ vs, o.data = .fields vs ∧ vs[1]? = some (.bool false)
theorem EnSt.nc {it : Addr} {i : Nat} (o : Obj) (x : EnSt it i o) : ¬ Codeish o := by
  obtain ⟨old, rfl⟩ := x
  rintro ⟨vs, q, t, hd, hv⟩
  cases hd; simp at hv
theorem EnOut.nc (o : Obj) (x : EnOut o) : ¬ Codeish o := by
  obtain ⟨vs, e, q⟩ := x
  rintro ⟨vs', q', t, hd, hv⟩
  rw [e] at hd; cases hd; rw [q] at hv; cases hv
theorem ItL.nc {l : Addr} {i : Nat} (o : Obj) (x : ItL l i o) : ¬ Codeish o := by
  rintro ⟨vs, q, t, hd, hv⟩
  rw [x.2] at hd; cases hd; simp at hv

/-- for k, x in enumerate(xs) -/
theorem forEnum {l : Addr} {ds : List V} {i1 i2 : Nat} {x1 x2 : Str} {p1 p2 tpos : Pos} {kk : Nat} {body : List Stmt} (hh : A.handled = none) (hp : ∀ v ∈ ds, v.proper)
    (hi1 : nth names i1 = some x1) (hi2 : nth names i2 = some x2) (Inv : Nat → List V → Led → Prop) (I : Sta G B env names vals led h) (hl : Has h l (LstR ds)) (h0 : Inv 0 vals led)
    (aux : ∀ i vs ld h', Inv i vs ld → Sta G B env names vs ld h' → Has h' l (LstR ds))
    (step : ∀ i v vs ld h' t' a1 a2, ds[i]? = some v → Inv i vs ld → Sta G B env names (setAt (setAt vs i1 (.int i)) i2 v) ((a1, EnSt a2 (i + 1)) :: (a2, ItL l (i + 1)) :: ld) h' →
      W prog w A (execs body env) (BodyPost (LoopE G B env names g d o [(a1, EnSt a2 (i + 1)), (a2, ItL l (i + 1))] (Inv (i + 1))) Q) ⟨h', g, d, t' + 1, o⟩)
    (done : ∀ vs ld h' t', Inv ds.length vs ld → Sta G B env names vs ld h' → Q .next ⟨h', g, d, t' + 1, o⟩) :
    W prog w A (call (.type "enumerate") [.ref l]) (fun xv s₁ => W prog w A (pyIter xv) (fun it s₂ => codeAny (model prog w) A (.forLoop (.Tuple [.Name x1 p1, .Name x2 p2] kk tpos) it body [] env) (fun r s' => match r with | .ok f => Q f s' | .error e => cameBackBy (model prog w) A env NoE e s') s₂) s₁) ⟨h, g, d, t + 1, o⟩ := by
  obtain ⟨vs0, hl0, hv0⟩ := hl.isListR
  refine .of (PySem.call_enumerate_list hl0 fun h₁ he hi hsz hk => W.of (wpAny_pyIter_enum he ?_))
  have S1 : Sta G B env names vals ((h.objs.size, ItL l 0) :: led) h₁ := by
    obtain ⟨ob, e, c1, c2⟩ := hi
    exact I.pushK hk (none_size h) e ⟨c1, c2⟩
  have S2 : Sta G B env names vals ((h.objs.size + 1, EnSt h.objs.size 0) :: (h.objs.size, ItL l 0) :: led) h₁ := by
    have n0 : h.get? (h.objs.size + 1) = none := by
      cases q : h.get? (h.objs.size + 1) with
      | none => rfl
      | some ob => exact absurd (Heap.lt_size q) (by show ¬ (h.objs.size + 1 < h.objs.size); lia)
    have S0 := I.pushK (P := EnSt h.objs.size 0) hk n0 he ⟨_, rfl⟩
    refine { S1 with leds := fun p hp => ?_, dist := ?_ }
    · rcases List.mem_cons.mp hp with rfl | hp
      · exact S0.leds _ (.head _)
      · exact S1.leds p hp
    · refine List.nodup_cons.mpr ⟨fun hm => ?_, S1.dist⟩
      rcases List.mem_cons.mp hm with e | hm
      · exact absurd e (by show h.objs.size + 1 ≠ h.objs.size; lia)
      · exact (List.nodup_cons.mp S0.dist).1 hm
  generalize h.objs.size + 1 = a1 at S2
  generalize h.objs.size = a2 at S2
  refine codeAny_forLoop_any (fun k s => ∃ i h' t' vs ld, k = ds.length - i ∧ i ≤ ds.length ∧ s = ⟨h', g, d, t' + 1, o⟩ ∧ Sta G B env names vs ((a1, EnSt a2 i) :: (a2, ItL l i) :: ld) h' ∧ Inv i vs ld) ?_ ds.length ⟨0, h₁, t, vals, led, rfl, Nat.zero_le _, rfl, S2, h0⟩
  rintro k s ⟨i, h', t', vs, ld, rfl, hi, rfl, J, hI⟩
  have hA := aux i vs ld h' hI J.tail.tail
  obtain ⟨vs1, hl1, hv1⟩ := hA.isListR
  obtain ⟨ob1, e1, old, rfl⟩ := J.has (i := 0) rfl
  obtain ⟨ob2, e2, c2⟩ := J.has (i := 1) rfl
  have ne12 : a1 ≠ a2 := fun e => (List.nodup_cons.mp J.dist).1 (e ▸ .head _)
  by_cases hlt : i < ds.length
  · obtain ⟨v, hv⟩ : ∃ v, ds[i]? = some v := ⟨ds[i], by simp [hlt]⟩
    obtain ⟨u, hu⟩ := hv1.get hv
    refine wpAny_pyNext_enum_item e1 ⟨ob2, e2, c2⟩ hl1 (by simpa using hu) ne12 fun h₂ heo hit ht hz hk₂ => ?_
    obtain ⟨ob3, e3, c3⟩ := hit
    have J₂ : Sta G B env names vs ((a1, EnOut) :: (a2, ItL l (i + 1)) :: ld) h₂ := J.two (fun o => EnSt.nc o) (fun o => ItL.nc o) hk₂ ⟨_, heo, _, rfl, rfl⟩ ⟨ob3, e3, c3⟩
    have lt1 : a1 < h'.objs.size := Heap.lt_size e1
    refine wpAny_letOwnedTupleGo_enum heo fun h₃ he₃ hs₃ => ?_
    have J₃ : Sta G B env names vs ((a1, EnSt a2 (i + 1)) :: (a2, ItL l (i + 1)) :: ld) h₃ := J₂.upd (i := 0) rfl (fun o => EnOut.nc o) (fun b o hb e => (hs₃.2 b hb).trans e) he₃ ⟨_, rfl⟩
    have ht₃ : h₃.get? h'.objs.size = some { cls := .type "tuple", data := .seq #[.int i (t' + 1), v.val u] } := (hs₃.2 _ (Nat.ne_of_gt lt1)).trans ht
    have q2 := hp v (List.mem_of_getElem? hv)
    have key : W prog w A (assign (.Tuple [.Name x1 p1, .Name x2 p2] kk tpos) env (.ref h'.objs.size)) (fun _ s₂ => W prog w A (execs body env) (BodyPost (LoopE G B env names g d o [(a1, EnSt a2 (i + 1)), (a2, ItL l (i + 1))] (Inv (i + 1))) Q) s₂) ⟨h₃, g, d, t' + 1 + 1, o⟩ :=
      aTup2 (d1 := .int i) (d2 := v) hh J₃ ⟨_, ht₃, _, _, rfl, .cons (.int i) (t' + 1) (.cons v u .nil)⟩ trivial q2 hi1 hi2 fun h₄ t₄ J₄ => step i v vs ld h₄ t₄ a1 a2 hv hI J₄
    refine wpAny_mono key.out (fun _ s₂ q => wpAny_mono (W.out q) (fun f s₃ q => ?_) fun _ _ q => q.elim) fun _ _ q => q.elim
    cases f with
    | next => obtain ⟨h'', t'', vs', ld', rfl, S, V⟩ := q; exact ⟨ds.length - (i + 1), by lia, i + 1, h'', t'', vs', ld', rfl, hlt, rfl, S, V⟩
    | cont => obtain ⟨h'', t'', vs', ld', rfl, S, V⟩ := q; exact ⟨ds.length - (i + 1), by lia, i + 1, h'', t'', vs', ld', rfl, hlt, rfl, S, V⟩
    | brk => exact q
    | ret v => exact q
  · have e : i = ds.length := by lia
    subst e
    refine wpAny_pyNext_enum_end hh e1 ⟨ob2, e2, c2⟩ hl1 (by simp [hv1.length]) fun h₂ hx => wpAny_execs_nil ?_
    have J₂ : Sta G B env names vs ld h₂ := (J.swap.letGo (fun o => ItL.nc o) hx).tail
    exact done vs ld h₂ t' hI J₂
end
end Mine
end PartMTup

section PartMCells
open PySem PySem.W PyProof.Rows
set_option autoImplicit false
set_option linter.unusedVariables false
namespace Mine
section
variable {G B h : Heap} {env : Env} {names : List Str} {vals : List V} {led : Led}
theorem Sta.imp {i : Nat} {a : Addr} {P P' : Obj → Prop} (I : Sta G B env names vals led h) (hi : nth led i = some (a, P)) (hp : ∀ o, P o → P' o) : Sta G B env names vals (setAt led i (a, P')) h := by
  refine { I with leds := fun p q => ?_, dist := by rw [map_setAt (b := (a, P')) (·.1) hi rfl]; exact I.dist }
  rcases mem_setAt q with rfl | ⟨j, _, e⟩
  · obtain ⟨x, y, o, z, w⟩ := I.leds _ (nth_mem hi)
    exact ⟨x, y, o, z, hp o w⟩
  · exact I.leds p (nth_mem e)
end
section
variable {prog : Program} {w : World} {A : Around} {s : Shared} {env : Env} {Q : Flow → Shared → Prop}
theorem xForT {target iter : Expr} {body : List Stmt} {pos : Pos} (h : W prog w A (eval iter env) (fun xv s₁ => W prog w A (pyIter xv) (fun it s₂ => codeAny (model prog w) A (.forLoop target it body [] env) (fun r s' => match r with | .ok f => Q f s' | .error e => cameBackBy (model prog w) A env NoE e s') s₂) s₁) s)
    (hs : ∀ x, foldedSetIterable iter env x = pure x := by intro _; kernel_rfl) : W prog w A (exec (.For target iter body [] pos) env) Q s :=
  .of (wpAny_For (wpAny_mono h.out (fun _ _ q => q.out) fun _ _ q => q) hs)
end

theorem d98 (P : Params) : DefOk P 98 [Str.ofString "script"] [Str.ofString "cells", Str.ofString "k", Str.ofString "x"] where
  at_ := by kernel_rfl
  body := by kernel_rfl
  code := by kernel_rfl
  co := by kernel_rfl
  gen := by kernel_rfl
  fn := by kernel_rfl
  cell := by kernel_rfl
  loc := by kernel_rfl
  nod := by decide +kernel

theorem set_all {P : Int → Prop} {cs : List Int} {k : Nat} {v : Int} (h : ∀ c ∈ cs, P c) (hv : P v) : ∀ c ∈ cs.set k v, P c := fun c hc => by
  rcases List.mem_or_eq_of_mem_set hc with h1 | h1
  · exact h c h1
  · exact h1 ▸ hv

section
variable {prog : Program} {w : World} {A : Around} {G h : Heap} {g : Array GenState} {d : Drawn} {t : Nat} {o : OsState} {mg mb : Str → Option Value}
theorem law_cells_ok {a : Addr} {ns : List Int} {Q : Value → Shared → Prop} (gg : GG w G mg mb) (hg : Glob G h) (hroom : A.depth < recursionLimit) (hh : A.handled = none)
    (hs : Has h a (LstR (ns.map .int))) (n5 : a ≠ 51 ∧ a ≠ 58) (hlen : ns.length ≤ 63)
    (k : ∀ h' t' r (cs : List Int), Kept h h' → Glob G h' → h.get? r = none → Has h' r (LstR (cs.map .int)) → cs.length = 8 → (∀ c ∈ cs, 0 ≤ c ∧ c < 1000000000) → Q (.ref r) ⟨h', g, d, t' + 1, o⟩) :
    W prog w A (call (.ref 98) [.ref a]) Q ⟨h, g, d, t + 1, o⟩ := by
  refine enterN (names := [Str.ofString "script", Str.ofString "cells", Str.ofString "k", Str.ofString "x"]) (vals := [.ref a, .unb, .unb, .unb]) gg hg (d98 _) hroom rfl (by kernel_rfl) rfl rfl fun h0 t0 I => ?_
  refine xCons ?_
  refine xAssign ?_
  refine xList ?_
  refine xArg ?_
  refine cInt fun _ _ => ?_
  refine xArg ?_
  refine cInt fun _ _ => ?_
  refine xArg ?_
  refine cInt fun _ _ => ?_
  refine xArg ?_
  refine cInt fun _ _ => ?_
  refine xArg ?_
  refine cInt fun _ _ => ?_
  refine xArg ?_
  refine cInt fun _ _ => ?_
  refine xArg ?_
  refine cInt fun _ _ => ?_
  refine xArg ?_
  refine cInt fun _ _ => ?_
  refine xArgs ?_
  refine mkList I rfl fun r h1 I1 => ?_
  refine sR I1 (i := 1) rfl fun h2 t2 I2 => ?_
  simp only [setAt] at I2
  replace I2 := I2.imp (i := 0) (P' := LstR ([4, 3, 2, 0, 1, 1, 1, 262].map V.int)) rfl fun o q => q.r
  simp only [setAt] at I2
  refine xCons ?_
  refine xForT ?_
  refine xCall ?_
  refine bload gg I2.glob (b_enumerate _) ?_
  refine xType ?_
  refine xArg ?_
  refine xSub ?_
  refine lR I2 (i := 0) rfl rfl ?_
  refine xSlice ?_
  refine xPart0 ?_
  refine xPart ?_
  refine cInt fun _ _ => ?_
  refine tSlice I2 (I2.old hs n5) .none (.int _ _) (by simp; exact Nat.le_trans hlen (by decide)) fun sl h3 I3 => ?_
  simp only [← List.map_drop, ← List.map_take] at I3
  generalize hds : List.take _ _ = ds at I3
  refine xArgs ?_
  have hsl := (I3.has (i := 0) rfl).r
  refine forEnum (l := sl) (ds := ds.map .int) (i1 := 2) (i2 := 3) hh (by intro v hv; obtain ⟨z, _, rfl⟩ := List.mem_map.mp hv; trivial) rfl rfl
    (fun i vs ld => ∃ (cs : List Int) (kv xv : V), vs = [.ref a, .ref r, kv, xv] ∧ ld = [(sl, Lst (ds.map .int)), (r, LstR (cs.map .int))] ∧ cs.length = 8 ∧ ∀ c ∈ cs, 0 ≤ c ∧ c ≤ 262 + 1000000 * (i : Int)) I3 hsl
    ⟨[4, 3, 2, 0, 1, 1, 1, 262], _, _, rfl, rfl, rfl, by decide⟩ ?_ ?_ ?_
  · rintro i vs ld h' ⟨cs, kv, xv, rfl, rfl, _⟩ J
    exact (J.has (i := 0) rfl).r
  · rintro i v vs ld h' t' a1 a2 hv ⟨cs, kv, xv, rfl, rfl, hcs, hb⟩ J
    refine W.gen fun QQ hQQ => ?_
    simp only [setAt] at J
    obtain ⟨z, hz⟩ : ∃ z, v = V.int z := by
      obtain ⟨z, _, e⟩ := List.mem_map.mp (List.mem_of_getElem? hv)
      exact ⟨z, e.symm⟩
    subst hz
    have m0 := Int.fmod_nonneg_of_pos (i : Int) (b := 8) (by decide)
    have m1 := Int.fmod_lt_of_pos (i : Int) (b := 8) (by decide)
    have q0 := Int.fmod_nonneg_of_pos z (b := 1000000) (by decide)
    have q1 := Int.fmod_lt_of_pos z (b := 1000000) (by decide)
    obtain ⟨c, hc⟩ : ∃ c, cs[((i : Int).fmod 8).toNat]? = some c := ⟨cs[((i : Int).fmod 8).toNat]'(by lia), by rw [List.getElem?_eq_getElem]⟩
    have hcb := hb c (List.mem_of_getElem? hc)
    refine xCons ?_
    refine xAugSub ?_
    refine lR J (i := 1) rfl rfl ?_
    refine xBin ?_
    refine lI J (i := 2) rfl rfl fun _ => ?_
    refine cInt fun _ _ => ?_
    refine iMod hh (by decide) fun _ _ => ?_
    refine gList (v := V.int c) (J.has (i := 3) rfl) m0 (by lia) (by rw [List.getElem?_map, hc]; rfl) fun _ => ?_
    refine xBin ?_
    refine lI J (i := 3) rfl rfl fun _ => ?_
    refine xBin ?_
    refine cInt fun _ _ => ?_
    refine cInt fun _ _ => ?_
    refine iPow (by decide) (by decide) (by decide) fun _ _ => ?_
    refine iMod hh (by decide) fun _ _ => ?_
    refine iIAdd fun _ _ => ?_
    refine sList J (i := 3) rfl m0 (by lia) (by simp [hcs]; lia) fun h4 J4 => ?_
    simp only [setAt, ← List.map_set] at J4
    refine xNil ?_
    refine hQQ _ _ ⟨h4, _, _, _, rfl, J4, _, _, _, rfl, rfl, by simp [hcs], ?_⟩
    refine set_all (fun c hc => ?_) ?_
    · have := hb c hc; push_cast; lia
    · show 0 ≤ c + z.fmod (10 ^ 6) ∧ c + z.fmod (10 ^ 6) ≤ _
      have e : (10 : Int) ^ 6 = 1000000 := by decide
      rw [e]; push_cast; lia
  · rintro vs ld h' t' ⟨cs, kv, xv, rfl, rfl, hcs, hb⟩ J
    refine xCons ?_
    refine xReturn ?_
    refine lR J (i := 1) rfl rfl ?_
    refine k _ _ _ cs J.keep J.glob (J.fresh (i := 1) rfl) (J.has (i := 1) rfl) hcs fun c hc => ?_
    have h1 := hb c hc
    have h2 : (List.map V.int ds).length ≤ 63 := by
      rw [List.length_map, ← hds]
      simp only [List.length_take, List.length_drop]
      lia
    lia
end
end Mine
end PartMCells

section PartMGen
open PySem PySem.W PyProof.Rows
set_option autoImplicit false
set_option linter.unusedVariables false
namespace Mine
section
variable {prog : Program} {w : World} {A : Around} {R : GenEnd} {Y : Protocol} {n : Nat} {s₀ : Shared} {c : Code} {fs : List Frame} {s : Shared} {env : Env}
  {K : Flow → Sem Fin} {H : Value → Sem Fin} {gd : Bool → Bool} {lv : List Value → List Value}

theorem segW {α : Type} {m : Sem α} {K : α → Sem Fin} {H : Value → Sem Fin} (h : W prog w (A.over c fs) m (fun a s' => Seg (model prog w) A R Y n s₀ c (K a) fs s') s) : Seg (model prog w) A R Y n s₀ c (m.wrap K H gd lv) fs s :=
  seg_wrap h.any

theorem segIf {test : Expr} {body orelse : List Stmt} {pos : Pos} (h : W prog w (A.over c fs) (isTrue test env (eval test env)) (fun b s' => if b = true then Seg (model prog w) A R Y n s₀ c ((execs body env).wrap K H gd lv) fs s' else Seg (model prog w) A R Y n s₀ c ((execs orelse env).wrap K H gd lv) fs s') s) :
    Seg (model prog w) A R Y n s₀ c ((exec (.If test body orelse pos) env).wrap K H gd lv) fs s := by
  rw [exec_If]
  refine seg_at ?_
  show Seg _ A R Y n s₀ c ((isTrue test env (eval test env) >>= fun b => if b = true then execs body env else execs orelse env).wrap K H gd lv) fs s
  rw [Sem.bind_eq_wrap', Sem.wrap_wrap]
  refine segW (h.mono fun b s' q => ?_)
  cases b <;> simpa using q

/-- what a loop's end goes on with -/
abbrev ownK (env : Env) (K : Flow → Sem Fin) (H : Value → Sem Fin) (gd : Bool → Bool) (lv : List Value → List Value) : Result → Sem Fin :=
  fun r => ((match r with | .ok f => (.pure f : Sem Flow) | .error e => .raise e).onRaise fun (x : Value) => do
        if (← field x 1) == Value.none then unsupported "frame.own-activation:exception-without-traceback"
        setFlight x env.frame).wrap K H gd lv

theorem segFor {target iter : Expr} {body : List Stmt} {pos : Pos} (h : W prog w (A.over c fs) (eval iter env) (fun x s₁ => W prog w (A.over c fs) (pyIter x) (fun it s₂ => ∀ p l, Seg (model prog w) A R Y n s₀ (.forLoop target it body [] env) ((model prog w).den (.forLoop target it body [] env))
      (.ret (ownK env K H gd lv) none (gd false) l c p [] :: fs) s₂) s₁) s)
    (hs : ∀ x, foldedSetIterable iter env x = pure x := by intro _; kernel_rfl) : Seg (model prog w) A R Y n s₀ c ((exec (.For target iter body [] pos) env).wrap K H gd lv) fs s := by
  rw [exec_For]
  refine seg_at ?_
  show Seg _ A R Y n s₀ c ((eval iter env >>= fun y => foldedSetIterable iter env y >>= fun x => (standAt iter.pos >>= fun _ => (holding [x] (pyIter x) >>= fun it => runOwn (.forLoop target it body [] env) env))).wrap K H gd lv) fs s
  rw [Sem.bind_eq_wrap', Sem.wrap_wrap]
  refine segW (h.mono fun x s₁ q => ?_)
  show Seg _ A R Y n s₀ c ((foldedSetIterable iter env x >>= fun x => (standAt iter.pos >>= fun _ => (holding [x] (pyIter x) >>= fun it => runOwn (.forLoop target it body [] env) env))).wrap K H _ _) fs s₁
  rw [hs]
  refine seg_at ?_
  show Seg _ A R Y n s₀ c ((holding [x] (pyIter x) >>= fun it => runOwn (.forLoop target it body [] env) env).wrap K H _ _) fs s₁
  rw [Sem.bind_eq_wrap', Sem.wrap_wrap]
  refine segW (W.of (wpAny_holding (wpAny_mono q.out (fun it s₂ q => ?_) fun _ _ q => q)))
  exact seg_call fun p => q p _

theorem segForLoop {target : Expr} {it : Value} {body : List Stmt} (h : W prog w (A.over (.forLoop target it body [] env) fs) (pyNext it) (fun r s' => match r with
      | none => Seg (model prog w) A R Y n s₀ (.block [] env) ((model prog w).den (.block [] env)) fs s'
      | some v => W prog w (A.over (.forLoop target it body [] env) fs) (assign target env v) (fun _ s₂ => Seg (model prog w) A R Y n s₀ (.forLoop target it body [] env) ((execs body env).wrap (fun f => match f with
            | .next | .cont => .pure (.again (.forLoop target it body [] env))
            | .brk => .pure (.done .next)
            | .ret v => .pure (.done (.ret v))) (fun e => (do noteFrame e env; theTreesLotGoes e : Sem Unit).wrap (fun _ => .raise e) .raise id id) id id) fs s₂) s') s)
    (ht : ∀ v, letOwnedTupleGo target it v = pure () := by intro _; rfl) :
    Seg (model prog w) A R Y n s₀ (.forLoop target it body [] env) ((model prog w).den (.forLoop target it body [] env)) fs s := by
  show Seg _ A R Y n s₀ _ ((forTurn target it body [] env).onRaise (fun x => do noteFrame x env; theTreesLotGoes x)) fs s
  unfold forTurn
  rw [Sem.onRaise_eq_wrap]
  refine seg_at ?_
  show Seg _ A R Y n s₀ _ (((pyNext it).onRaise (fun _ => standAt { target.pos with line := 0 }) >>= fun r => match r with
    | none => again (.block [] env)
    | some v => letOwnedTupleGo target it v >>= fun _ => assign target env v >>= fun _ => execs body env >>= fun f => match f with
      | .next | .cont => again (.forLoop target it body [] env)
      | .brk => pure (.done .next)
      | .ret v => pure (.done (.ret v))).wrap .pure _ id id) fs s
  rw [Sem.bind_eq_wrap', Sem.wrap_wrap]
  refine segW (W.of (wpAny_onRaise (wpAny_mono h.out (fun r s' q => ?_) fun _ _ q => q.elim)))
  cases r with
  | none => exact seg_again (by rfl) q
  | some v =>
    show Seg _ A R Y n s₀ _ ((letOwnedTupleGo target it v >>= fun _ => assign target env v >>= fun _ => execs body env >>= fun f => match f with
      | .next | .cont => again (.forLoop target it body [] env)
      | .brk => pure (.done .next)
      | .ret v => pure (.done (.ret v))).wrap .pure _ id id) fs s'
    rw [ht]
    show Seg _ A R Y n s₀ _ ((assign target env v >>= fun _ => execs body env >>= fun f => match f with
      | .next | .cont => again (.forLoop target it body [] env)
      | .brk => pure (.done .next)
      | .ret v => pure (.done (.ret v))).wrap .pure _ id id) fs s'
    rw [Sem.bind_eq_wrap', Sem.wrap_wrap]
    refine segW (W.mono q fun _ s₂ q => ?_)
    show Seg _ A R Y n s₀ _ ((execs body env >>= fun f => match f with
      | .next | .cont => again (.forLoop target it body [] env)
      | .brk => pure (.done .next)
      | .ret v => pure (.done (.ret v))).wrap .pure _ id id) fs s₂
    rw [Sem.bind_eq_wrap', Sem.wrap_wrap]
    rw [Sem.wrap_congr (execs body env) _ _ (K' := fun f => match f with
            | .next | .cont => .pure (.again (.forLoop target it body [] env))
            | .brk => .pure (.done .next)
            | .ret v => .pure (.done (.ret v))) (H' := (fun e => (do noteFrame e env; theTreesLotGoes e : Sem Unit).wrap (fun _ => .raise e) .raise id id))
        (fun f => by cases f <;> rfl)
        (fun e => by first | exact Sem.bind_eq_wrap _ _ | (show (do noteFrame e env; theTreesLotGoes e : Sem Unit).bind (fun _ => .raise e) = _; rw [Sem.bind_eq_wrap]))]
    exact q
theorem segBlock0 (h : Seg (model prog w) A R Y n s₀ (.block [] env) (.pure (.done .next)) fs s) : Seg (model prog w) A R Y n s₀ (.block [] env) ((model prog w).den (.block [] env)) fs s := h
end
end Mine
end PartMGen

section PartMGen2
open PySem PySem.W PyProof.Rows
set_option autoImplicit false
set_option linter.unusedVariables false
namespace Mine

/-- a frame's dict, as an object -/
def GL (names : List Str) (vals : List V) (o : Obj) : Prop := ∃ es ep, o.data = .dict es ep ∧ StrKeys es ∧ ∀ i x d, nth names i = some x → nth vals i = some d → d ≠ .unb → ∃ t, nsFind es x = some (d.val t)
theorem GL.loc {h : Heap} {L : Addr} {names : List Str} {vals : List V} (x : Has h L (GL names vals)) : Loc h L names vals := by
  obtain ⟨o, e, es, ep, hd, hk, hv⟩ := x
  exact ⟨nsFind es, ⟨o, es, ep, e, hd, hk, fun _ => rfl⟩, hv⟩
theorem Loc.gl {h : Heap} {L : Addr} {names : List Str} {vals : List V} (x : Loc h L names vals) : Has h L (GL names vals) := by
  obtain ⟨m, ⟨o, es, ep, e, hd, hk, hf⟩, hv⟩ := x
  exact ⟨o, e, es, ep, hd, hk, fun i x d h1 h2 h3 => by rw [hf]; exact hv i x d h1 h2 h3⟩
theorem GL.nc {names : List Str} {vals : List V} (o : Obj) (x : GL names vals o) : ¬ Codeish o := by
  obtain ⟨es, ep, e, _⟩ := x
  rintro ⟨vs, q, t, hd, _⟩
  rw [e] at hd; cases hd

theorem Glob.hide {G h : Heap} (x : Glob G h) (as : List Addr) (ha : ∀ a ∈ as, G.get? a = none ∧ a ≠ 51 ∧ a ≠ 58 ∧ ∀ o, h.get? a = some o → ¬ Codeish o) : Glob G (hideAll h as) := by
  refine x.up fun b o e hb => hideAll_get as e fun hm => ?_
  obtain ⟨h1, h2, h3, h4⟩ := ha b hm
  rcases hb with hb | hb | hb | hb
  · rw [h1] at hb; cases hb
  · exact h2 hb
  · exact h3 hb
  · exact h4 o e hb

section
variable {prog : Program} {w : World} {A : Around} {G B h : Heap} {g : Array GenState} {d : Drawn} {t : Nat} {o : OsState} {env : Env} {names : List Str} {vals : List V} {led : Led}
theorem storeZ {i : Nat} {x : Str} {v : Value} {Q : Unit → Shared → Prop} (I : Sta G B env names vals led h) (hi : nth names i = some x)
    (k : ∀ h' t', h'.objs.size = h.objs.size → Sta G B env names (setAt vals i (V.of v)) led h' → Q () ⟨h', g, d, t', o⟩) : W prog w A (storeName env x v) Q ⟨h, g, d, t, o⟩ := by
  obtain ⟨m, n, hm⟩ := I.loc
  refine .of (wpAny_storeName_local (I.kinds x (nth_mem hi)) n (fun h' n' s => k h' _ s.1 (I.store hi hm n' s)) ?_)
  rw [I.fn]; rfl
theorem pIterZ {l : Addr} {ds : List V} {Q : Value → Shared → Prop} (I : Sta G B env names vals led h) (hl : Has h l (LstR ds)) (k : ∀ h', Sta G B env names vals ((h.objs.size, ItL l 0) :: led) h' → Q (.ref h.objs.size) ⟨h', g, d, t, o⟩) :
    W prog w A (pyIter (.ref l)) Q ⟨h, g, d, t, o⟩ := by
  obtain ⟨vs, hl', hv⟩ := hl.isListR
  exact .of (wpAny_pyIter_list hl' (k _ (I.pushK (fun _ _ e => Heap.get?_push_of_some _ e) (none_size h) (Heap.get?_push_size _ rfl) ⟨rfl, rfl⟩)))
end

section
variable {prog : Program} {w : World} {A : Around} {G B h : Heap} {g : Array GenState} {d : Drawn} {t : Nat} {o : OsState} {env : Env} {names : List Str} {vals : List V} {led : Led} {i : Nat} {x : Str}
theorem sI0 {z : Int} {u : Tok} {R : Unit → Shared → Prop} (I : Sta G B env names vals led h) (hi : nth names i = some x) (k : ∀ h' t', Sta G B env names (setAt vals i (.int z)) led h' → R () ⟨h', g, d, t', o⟩) :
    W prog w A (storeName env x (.int z u)) R ⟨h, g, d, t, o⟩ := store0 I hi k
theorem cInt0 {i : Int} {k : Nat} {pos : Pos} {Q : Value → Shared → Prop} (c : ∀ u t', Q (.int i u) ⟨h, g, d, t', o⟩) : W prog w A (eval (.Constant (.int i) k pos) env) Q ⟨h, g, d, t, o⟩ := W.of (wpAny_Constant_int (c _ _))
end
/-- the generator's own names -/
abbrev gNames : List Str := [Str.ofString "grouping", Str.ofString "last_interval", Str.ofString "interval"]
@[reducible] def gVals (row : Addr) (st : List Int) (k : Nat) : List V :=
  if k = 0 then [.ref row, .unb, .unb] else if k ≤ st.length then [.ref row, .unb, .int (st.getD (k - 1) 0)] else [.ref row, .int (st.getD (st.length - 1) 0), .unb]

/-- the generator's state behind k yields -/
structure GI (G : Heap) (L Ig row : Addr) (st tail : List Int) (k : Nat) (h : Heap) : Prop where
  glob : Glob G h
  list : Has h row (LstR ((st ++ tail).map .int))
  loc : Has h L (GL gNames (gVals row st k))
  it0 : k = 0 → h.objs.size = Ig
  it : 0 < k → k ≤ st.length → Has h Ig (ItL row k)
  live : 0 < k → ∃ ob, h.get? Ig = some ob
  gL : G.get? L = none
  gI : G.get? Ig = none
  n5 : row ≠ 51 ∧ row ≠ 58

/-- what is told at the k-th asking -/
def told (st tail : List Int) (k : Nat) : Option Int := if k < st.length then some (st.getD k 0) else if tail.head? = some 0 then some (st.getD (st.length - 1) 0) else none

def TransG (L Ig : Addr) (s₀ s' : Shared) : Prop := s'.gens = s₀.gens ∧ s'.drawn = s₀.drawn ∧ s'.os = s₀.os ∧ ∀ b o, b ≠ L → b ≠ Ig → b ≠ 51 → b ≠ 58 → s₀.heap.get? b = some o → s'.heap.get? b = some o

section
variable (prog : Program) (w : World) (A : Around) (G : Heap) (L Ig row : Addr) (st tail : List Int) (N : Nat)
def YP : Protocol := fun n s₀ v s' kap => ∃ z u, v = .int z u ∧ told st tail (N - 1 - n) = some z ∧ TransG L Ig s₀ s' ∧ GI G L Ig row st tail (N - n) s'.heap ∧ (0 < n → ∀ s'' : Shared, GI G L Ig row st tail (N - n) s''.heap → kap (.send .none) s'')
def PP : Nat → Shared → Shared → Prop := fun n s₀ s₁ => told st tail (N - n) = none ∧ TransG L Ig s₀ s₁ ∧ Glob G s₁.heap
def RP : GenEnd := fun n s₀ r s₁ => r = .ok (.ret .none) ∧ PP G L Ig st tail N n s₀ s₁
end

section
variable {G h : Heap} {L Ig row : Addr} {st tail : List Int} {k : Nat}
theorem GI.nL (x : GI G L Ig row st tail k h) : L ≠ 51 ∧ L ≠ 58 ∧ L ≠ row := by
  obtain ⟨o, e, es, ep, hd, _⟩ := x.loc
  refine ⟨?_, ?_, ?_⟩
  · rintro rfl
    obtain ⟨ps, q⟩ := x.glob.t51.some
    rw [e] at q; cases q; cases hd
  · rintro rfl
    obtain ⟨ps, q⟩ := x.glob.t58.some
    rw [e] at q; cases q; cases hd
  · rintro rfl
    obtain ⟨o', e', _, vs, n, hd', _⟩ := x.list
    rw [e] at e'; cases e'; rw [hd] at hd'; cases hd'
theorem GI.nI (x : GI G L Ig row st tail k h) (h0 : 0 < k) (h1 : k ≤ st.length) : Ig ≠ 51 ∧ Ig ≠ 58 ∧ Ig ≠ row ∧ Ig ≠ L := by
  obtain ⟨o, e, c1, c2⟩ := x.it h0 h1
  refine ⟨?_, ?_, ?_, ?_⟩
  · rintro rfl
    obtain ⟨ps, q⟩ := x.glob.t51.some
    rw [e] at q; cases q; cases c1
  · rintro rfl
    obtain ⟨ps, q⟩ := x.glob.t58.some
    rw [e] at q; cases q; cases c1
  · rintro rfl
    obtain ⟨o', e', _, vs, n, hd', _⟩ := x.list
    rw [e] at e'; cases e'; rw [c2] at hd'; cases hd'
  · rintro rfl
    obtain ⟨o', e', es, ep, hd', _⟩ := x.loc
    rw [e] at e'; cases e'; rw [c2] at hd'; cases hd'

/-- the generator's frame between two yields -/
theorem GI.sta {w : World} (x : GI G L Ig row st tail k h) (h0 : 0 < k) (h1 : k ≤ st.length) (hk : ∀ y ∈ gNames, (cenv w 91 L).kindOf y = some .local) (hf : (cenv w 91 L).scope.kind = .function) :
    Sta G (hideAll h [L, Ig]) (cenv w 91 L) gNames (gVals row st k) [(Ig, ItL row k)] h := by
  have nl := x.nL
  have ni := x.nI h0 h1
  refine ⟨x.glob, x.glob.hide _ ?_, hideAll_none _ (.head _), .of fun b o e => of_hideAll _ e, GL.loc x.loc, by decide +kernel, hk, hf, ?_, by simp⟩
  · intro a ha
    rcases List.mem_cons.mp ha with rfl | ha
    · exact ⟨x.gL, nl.1, nl.2.1, fun o e => by obtain ⟨o', e', p⟩ := x.loc; rw [e] at e'; cases e'; exact GL.nc _ p⟩
    · rw [List.mem_singleton.mp ha]
      exact ⟨x.gI, ni.1, ni.2.1, fun o e => by obtain ⟨o', e', p⟩ := x.it h0 h1; rw [e] at e'; cases e'; exact ItL.nc _ p⟩
  · intro p hp
    rw [List.mem_singleton.mp hp]
    exact ⟨hideAll_none _ (.tail _ (.head _)), ni.2.2.2, x.it h0 h1⟩
/-- the frame without its iterator (before it is made, or when it counts no more) -/
theorem GI.sta0 {w : World} (x : GI G L Ig row st tail k h) (hk : ∀ y ∈ gNames, (cenv w 91 L).kindOf y = some .local) (hf : (cenv w 91 L).scope.kind = .function) :
    Sta G (hideAll h [L]) (cenv w 91 L) gNames (gVals row st k) [] h := by
  have nl := x.nL
  refine ⟨x.glob, x.glob.hide _ ?_, hideAll_none _ (.head _), .of fun b o e => of_hideAll _ e, GL.loc x.loc, by decide +kernel, hk, hf, (fun p hp => nomatch hp), List.nodup_nil⟩
  intro a ha
  rw [List.mem_singleton.mp ha]
  exact ⟨x.gL, nl.1, nl.2.1, fun o e => by obtain ⟨o', e', p⟩ := x.loc; rw [e] at e'; cases e'; exact GL.nc _ p⟩
end
end Mine
end PartMGen2

section PartMGen3
open PySem PySem.W PyProof.Rows
set_option autoImplicit false
set_option linter.unusedVariables false
namespace Mine

noncomputable def gFor (P : Params) : List Stmt := match bodyOf P 91 with
  | _ :: .For _ _ b _ _ :: _ => b
  | _ => []
noncomputable def gTgt (P : Params) : Expr := match bodyOf P 91 with
  | _ :: .For t _ _ _ _ :: _ => t
  | _ => .Name (Str.ofString "x") ⟨0, 0, 0, 0⟩
noncomputable def gIter (P : Params) : Expr := match bodyOf P 91 with
  | _ :: .For _ t _ _ _ :: _ => t
  | _ => .Name (Str.ofString "x") ⟨0, 0, 0, 0⟩
noncomputable def gWhile (P : Params) : Expr × List Stmt := match gFor P with
  | _ :: .If _ (_ :: .While t b _ _ :: _) _ _ :: _ => (t, b)
  | _ => (.Name (Str.ofString "x") ⟨0, 0, 0, 0⟩, [])
noncomputable abbrev cFor (w : World) (L Ig : Addr) : Code := .forLoop (gTgt w.params) (.ref Ig) (gFor w.params) [] (cenv w 91 L)
noncomputable abbrev cWhile (w : World) (L : Addr) : Code := .whileLoop (gWhile w.params).1 (gWhile w.params).2 [] (cenv w 91 L)

section
variable {prog : Program} {w : World} {A : Around} {G : Heap} {L Ig row : Addr} {st tail : List Int} {N : Nat} {mg mb : Str → Option Value}

structure FsOK (prog : Program) (w : World) (A : Around) (G : Heap) (L Ig row : Addr) (st tail : List Int) (N : Nat) (fs : List Frame) : Prop where
  sp : splitAtGen fs = none
  ng : fs.any Frame.guarded = false
  hd : ∀ c, (A.over c fs).handled = none
  fin : ∀ n s₀ c s f, f = Flow.next ∨ f = Flow.ret .none → PP G L Ig st tail N n s₀ s → Seg (model prog w) A (RP G L Ig st tail N) (YP G L Ig row st tail N) n s₀ c (.pure (.done f)) fs s

structure RowOK (st tail : List Int) : Prop where
  ne : 0 < st.length
  st : ∀ x ∈ st, x ≠ 0 ∧ x ≠ 127
  tail : tail = [] ∨ tail.head? = some 0 ∨ tail.head? = some 127

def Ph1 (prog : Program) (w : World) (A : Around) (G : Heap) (L Ig row : Addr) (st tail : List Int) (N n : Nat) : Prop :=
  ∀ fs s, FsOK prog w A G L Ig row st tail N fs → GI G L Ig row st tail (N - n) s.heap → 0 < N - n → N - n ≤ st.length →
    Seg (model prog w) A (RP G L Ig st tail N) (YP G L Ig row st tail N) n s (cFor w L Ig) ((execs ((gFor w.params).drop 3) (cenv w 91 L)).wrap (fun f => match f with
            | .next | .cont => .pure (.again (cFor w L Ig))
            | .brk => .pure (.done .next)
            | .ret v => .pure (.done (.ret v))) (fun e => (do noteFrame e (cenv w 91 L); theTreesLotGoes e : Sem Unit).wrap (fun _ => .raise e) .raise id id) id id) fs s
def Ph2 (prog : Program) (w : World) (A : Around) (G : Heap) (L Ig row : Addr) (st tail : List Int) (N n : Nat) : Prop :=
  ∀ fs s, splitAtGen fs = none → fs.any Frame.guarded = false → (∀ c, (A.over c fs).handled = none) → GI G L Ig row st tail (N - n) s.heap → st.length < N - n → tail.head? = some 0 →
    Seg (model prog w) A (RP G L Ig st tail N) (YP G L Ig row st tail N) n s (cWhile w L) (.pure (.again (cWhile w L))) fs s

theorem gKinds (w : World) (L : Addr) : ∀ y ∈ gNames, (cenv w 91 L).kindOf y = some .local := by
  have : (gNames.all fun x => (fdOf w.params 91).scope.names.lookup x == some .local) = true := by kernel_rfl
  exact fun y hy => beq_local (List.all_eq_true.mp this y hy)
theorem gFn (w : World) (L : Addr) : (cenv w 91 L).scope.kind = .function := by kernel_rfl

/-- the while's turn -/
theorem gTurn {n : Nat} {B h : Heap} {g : Array GenState} {d : Drawn} {t : Nat} {o : OsState} {s₀ : Shared} {fs : List Frame} {iv : V} {led : Led} (hn : n < N) (ih : 0 < n → Ph2 prog w A G L Ig row st tail N n)
    (sp : splitAtGen fs = none) (ng : fs.any Frame.guarded = false) (hd : ∀ c, (A.over c fs).handled = none) (hN : st.length < N - n) (ht : tail.head? = some 0)
    (gL : G.get? L = none) (gI : G.get? Ig = none) (n5 : row ≠ 51 ∧ row ≠ 58)
    (I : Sta G B (cenv w 91 L) gNames [.ref row, .int (st.getD (st.length - 1) 0), iv] led h) (hl : Has B row (LstR ((st ++ tail).map .int))) (live : ∃ ob, h.get? Ig = some ob)
    (tr : ∀ h' t', Kept B h' → TransG L Ig s₀ ⟨h', g, d, t', o⟩) :
    Seg (model prog w) A (RP G L Ig st tail N) (YP G L Ig row st tail N) (n + 1) s₀ (cWhile w L) ((model prog w).den (cWhile w L)) fs ⟨h, g, d, t, o⟩ := by
  refine seg_whileLoop (W.any (prog := prog) (w := w) ?_)
  refine W.of (wpAny_isTrue_value (wpAny_Constant_bool (W.out (tBool ?_))))
  rw [if_pos rfl]
  refine seg_execs_cons ?_
  refine seg_Expr_Yield sp rfl ng (W.any (prog := prog) (w := w) ?_) (by kernel_rfl) (by kernel_rfl)
  refine lI I (i := 1) rfl rfl fun u => ?_
  intro kap hk
  refine ⟨_, u, rfl, ?_, tr _ _ I.keep, ⟨I.glob, I.old hl n5, ?_, fun e => by lia, fun _ e => by lia, fun _ => live, gL, gI, n5⟩, fun n0 s'' x => hk .none s'' ?_⟩
  · unfold told
    rw [if_neg (by lia), if_pos ht]
  · rw [show gVals row st (N - n) = _ from by unfold gVals; rw [if_neg (by lia), if_neg (by lia)]]
    refine Loc.gl (I.revals fun i dd h1 h2 => ?_).loc
    match i with
    | 0 => exact h1
    | 1 => exact h1
    | 2 => cases h1; exact absurd rfl h2
    | j + 3 => cases h1
  · exact ih n0 fs s'' sp ng hd x hN ht

/-- the next item of the row -/
theorem gFetch {n : Nat} {B h : Heap} {g : Array GenState} {d : Drawn} {t : Nat} {o : OsState} {s₀ : Shared} {fs : List Frame} {lv iv : V} (gg : GG w G mg mb) (ok : RowOK st tail) (hn : n < N)
    (ih1 : 0 < n → Ph1 prog w A G L Ig row st tail N n) (ih2 : 0 < n → Ph2 prog w A G L Ig row st tail N n) (F : FsOK prog w A G L Ig row st tail N fs) (hN : N - (n + 1) ≤ st.length)
    (hlv : 0 < N - (n + 1) → lv = .int (st.getD (N - (n + 1) - 1) 0))
    (gL : G.get? L = none) (gI : G.get? Ig = none) (n5 : row ≠ 51 ∧ row ≠ 58)
    (I : Sta G B (cenv w 91 L) gNames [.ref row, lv, iv] [(Ig, ItL row (N - (n + 1)))] h) (hl : Has B row (LstR ((st ++ tail).map .int)))
    (tr : ∀ h' t', Kept B h' → TransG L Ig s₀ ⟨h', g, d, t', o⟩) :
    Seg (model prog w) A (RP G L Ig st tail N) (YP G L Ig row st tail N) (n + 1) s₀ (cFor w L Ig) ((model prog w).den (cFor w L Ig)) fs ⟨h, g, d, t, o⟩ := by
  have nrow := ok.ne
  generalize hk : N - (n + 1) = k at *
  have hk1 : N - n = k + 1 := by lia
  have hk2 : N - 1 - n = k := by lia
  have It := iterL (prog := prog) (w := w) (F.hd (cFor w L Ig)) Ig row ((st ++ tail).map .int) (by intro v hv; obtain ⟨z, _, rfl⟩ := List.mem_map.mp hv; trivial)
  refine segForLoop ?_ (by intro _; rfl)
  by_cases hlt : k < ((st ++ tail).map V.int).length
  · refine It.item k _ _ _ _ _ _ hlt (I.old hl n5) (I.has (i := 0) rfl) fun h₁ t₁ v u _ hv kp hst => ?_
    obtain ⟨ob, e, hob⟩ := hst
    have I₁ : Sta G B (cenv w 91 L) gNames [.ref row, lv, iv] [(Ig, ItL row (k + 1))] h₁ := I.upd (i := 0) rfl (fun o => ItL.nc o) kp e hob
    obtain ⟨x, hx, rfl⟩ : ∃ x, (st ++ tail)[k]? = some x ∧ V.int x = v := by
      rw [List.getElem?_map] at hv
      cases q : (st ++ tail)[k]? with
      | none => rw [q] at hv; cases hv
      | some x => rw [q] at hv; exact ⟨x, rfl, Option.some.inj hv⟩
    refine .of (wpAny_assign_Name (W.out (sI0 I₁ (i := 2) rfl fun h₂ t₂ I₂ => ?_)))
    simp only [setAt] at I₂
    have hcase : (k < st.length ∧ x = st.getD k 0 ∧ x ≠ 0 ∧ x ≠ 127) ∨ (k = st.length ∧ tail.head? = some x) := by
      by_cases q : k < st.length
      · rw [List.getElem?_append_left q] at hx
        refine .inl ⟨q, by simp [List.getD, hx], ok.st x (List.mem_of_getElem? hx)⟩
      · have e2 : k = st.length := by lia
        refine .inr ⟨e2, ?_⟩
        rw [List.getElem?_append_right (by lia), e2, Nat.sub_self] at hx
        rw [List.head?_eq_getElem?]; exact hx
    refine seg_execs_cons ?_
    refine segIf ?_
    refine xTest ?_
    refine lI I₂ (i := 2) rfl rfl fun _ => ?_
    refine gload gg I₂.glob (n_CHAR_MAX _) ?_
    refine iEq ?_
    refine tBool ?_
    by_cases e127 : x = 127
    · refine br_t (by simp [e127]) ?_
      have hh : k = st.length ∧ tail.head? = some x := hcase.resolve_left (fun q => q.2.2.2 e127)
      refine seg_execs_cons ?_
      refine segW (xReturn0 ?_)
      refine F.fin _ _ _ _ _ (.inr rfl) ⟨?_, tr _ _ I₂.keep, I₂.glob⟩
      unfold told
      rw [hk, if_neg (by lia), if_neg (by rw [hh.2, e127]; simp)]
    refine br_f (by simp [e127]) ?_
    refine seg_execs_nil ?_
    refine seg_execs_cons ?_
    refine segIf ?_
    refine xTest ?_
    refine lI I₂ (i := 2) rfl rfl fun _ => ?_
    refine cInt0 fun _ _ => ?_
    refine iEq ?_
    refine tBool ?_
    by_cases e0 : x = 0
    · refine br_t (by simp [e0]) ?_
      have hh : k = st.length ∧ tail.head? = some x := hcase.resolve_left (fun q => q.2.2.1 e0)
      have hlv' := hlv (by lia)
      subst hlv'
      refine seg_execs_cons ?_
      refine segIf ?_
      refine xTest ?_
      refine lI I₂ (i := 1) rfl rfl fun _ => ?_
      refine xNone ?_
      refine .of (wpAny_is_other (by rfl) (by intro q; cases q) (tBool ?_))
      refine br_f rfl ?_
      refine seg_execs_nil ?_
      refine seg_execs_cons ?_
      refine seg_While fun p => ?_
      have J : Sta G B (cenv w 91 L) gNames [.ref row, .int (st.getD (st.length - 1) 0), .int x] [(Ig, ItL row (k + 1))] h₂ := by rw [← hh.1]; exact I₂
      refine gTurn hn ih2 ?_ ?_ ?_ (by lia) (by rw [hh.2, e0]) gL gI n5 J hl (let ⟨ob, e, _⟩ := J.has (i := 0) rfl; ⟨ob, e⟩) tr
      · show (splitAtGen fs).map _ = none
        rw [F.sp]; rfl
      · show (id false || fs.any Frame.guarded) = false
        rw [F.ng]; rfl
      · intro c
        have := F.hd c
        exact this
    refine br_f (by simp [e0]) ?_
    refine seg_execs_nil ?_
    have hh : k < st.length ∧ x = st.getD k 0 := hcase.elim (fun q => ⟨q.1, q.2.1⟩) (fun q => by
      rcases ok.tail with h1 | h1 | h1
      · rw [h1] at q; cases q.2
      · rw [h1] at q; cases q.2; exact absurd rfl e0
      · rw [h1] at q; cases q.2; exact absurd rfl e127)
    refine seg_execs_cons ?_
    refine seg_Expr_Yield F.sp rfl F.ng (W.any (prog := prog) (w := w) ?_) (by kernel_rfl) (by kernel_rfl)
    refine lI I₂ (i := 2) rfl rfl fun u => ?_
    intro kap hkap
    refine ⟨_, u, rfl, ?_, tr _ _ I₂.keep, ⟨I₂.glob, I₂.old hl n5, ?_, fun e => by lia, fun _ _ => ?_, fun _ => (let ⟨ob, e, _⟩ := I₂.has (i := 0) rfl; ⟨ob, e⟩), gL, gI, n5⟩, fun n0 s'' y => hkap .none s'' ?_⟩
    · unfold told
      rw [hk2, if_pos hh.1, hh.2]
    · rw [hk1, show gVals row st (k + 1) = _ from by unfold gVals; rw [if_neg (by lia), if_pos (by lia)]]
      refine Loc.gl (I₂.revals fun i dd h1 h2 => ?_).loc
      match i with
      | 0 => exact h1
      | 1 => cases h1; exact absurd rfl h2
      | 2 => rw [hh.2]; exact h1
      | j + 3 => cases h1
    · rw [hk1]; exact I₂.has (i := 0) rfl
    · exact ih1 n0 fs s'' F y (by lia) (by lia)
  · have e : k = ((st ++ tail).map V.int).length := by
      simp only [List.length_map, List.length_append] at hlt ⊢; lia
    have I' := I
    rw [e] at I'
    refine It.done _ _ _ _ _ _ (I.old hl n5) (I'.has (i := 0) rfl) fun h₁ t₁ _ kp => ?_
    have I₁ : Sta G B (cenv w 91 L) gNames [.ref row, lv, iv] [] h₁ := I.letGo (fun o => ItL.nc o) kp
    refine segBlock0 (F.fin _ _ _ _ _ (.inl rfl) ⟨?_, tr _ _ I₁.keep, I₁.glob⟩)
    simp only [List.length_map, List.length_append] at e
    unfold told
    rw [hk, if_neg (by lia), if_neg]
    have : tail.length = 0 := by lia
    rw [List.length_eq_zero_iff.mp this]; simp

theorem trans_hide {h0 : Heap} {g : Array GenState} {d : Drawn} {t0 : Nat} {o : OsState} (as : List Addr) (ha : ∀ a ∈ as, a = L ∨ a = Ig) : ∀ h' t', Kept (hideAll h0 as) h' → TransG L Ig ⟨h0, g, d, t0, o⟩ ⟨h', g, d, t', o⟩ :=
  fun h' t' k => ⟨rfl, rfl, rfl, fun b ob n1 n2 n3 n4 e => k b ob (hideAll_get as e fun hm => (ha b hm).elim n1 n2) n3 n4⟩

theorem phases (gg : GG w G mg mb) (ok : RowOK st tail) : ∀ n, n < N → Ph1 prog w A G L Ig row st tail N (n + 1) ∧ Ph2 prog w A G L Ig row st tail N (n + 1)
  | n, hn => by
    have ih1 : 0 < n → Ph1 prog w A G L Ig row st tail N n := fun h => by
      cases n with
      | zero => cases h
      | succ m => exact (phases gg ok m (by lia)).1
    have ih2 : 0 < n → Ph2 prog w A G L Ig row st tail N n := fun h => by
      cases n with
      | zero => cases h
      | succ m => exact (phases gg ok m (by lia)).2
    constructor
    · rintro fs ⟨h, g, d, t, o⟩ F x h0 h1
      have I := x.sta (w := w) h0 h1 (gKinds w L) (gFn w L)
      have nl := x.nL
      have ni := x.nI h0 h1
      have hl : Has (hideAll h [L, Ig]) row (LstR ((st ++ tail).map .int)) := by
        obtain ⟨ob, e, p⟩ := x.list
        exact ⟨ob, hideAll_get _ e (by simp [Ne.symm nl.2.2, Ne.symm ni.2.2.1]), p⟩
      rw [show gVals row st (N - (n + 1)) = _ from by unfold gVals; rw [if_neg (by lia), if_pos h1]] at I
      refine seg_execs_cons ?_
      refine segW (xAssign ?_)
      refine lI I (i := 2) rfl rfl fun _ => ?_
      refine sI0 I (i := 1) rfl fun h₁ t₁ I₁ => ?_
      simp only [setAt] at I₁
      refine seg_execs_nil ?_
      refine seg_again (by rfl) ?_
      exact gFetch gg ok (by lia) ih1 ih2 F h1 (fun _ => rfl) x.gL x.gI x.n5 I₁ hl (trans_hide _ (by simp))
    · rintro fs ⟨h, g, d, t, o⟩ sp ng hd x h0 ht
      have I := x.sta0 (w := w) (gKinds w L) (gFn w L)
      have nl := x.nL
      have hl : Has (hideAll h [L]) row (LstR ((st ++ tail).map .int)) := by
        obtain ⟨ob, e, p⟩ := x.list
        exact ⟨ob, hideAll_get _ e (by simp [Ne.symm nl.2.2]), p⟩
      rw [show gVals row st (N - (n + 1)) = _ from by unfold gVals; rw [if_neg (by lia), if_neg (by lia)]] at I
      refine seg_again (by rfl) ?_
      exact gTurn (by lia) ih2 sp ng hd (by lia) ht x.gL x.gI x.n5 I hl (x.live (by lia)) (trans_hide _ (by simp))
end
end Mine
end PartMGen3

section PartMGen4
open PySem PySem.W PyProof.Rows
set_option autoImplicit false
set_option linter.unusedVariables false
namespace Mine

section
variable {prog : Program} {w : World} {A : Around} {G : Heap} {L Ig row : Addr} {st tail : List Int} {N : Nat} {mg mb : Str → Option Value}

theorem over1 {c c' : Code} {k : Result → Sem Fin} {g : Bool} {l : List Value} {p : Pos} (hh : A.handled = none) : (A.over c [.ret k none g l c' p []]).handled = none := hh

theorem gStart (gg : GG w G mg mb) (ok : RowOK st tail) (hh : A.handled = none) (hN : 0 < N) (s : Shared) (x : GI G L Ig row st tail 0 s.heap) :
    (GenState.fresh (.func (bodyOf w.params 91) (cenv w 91 L))).Goes (model prog w) A (RP G L Ig st tail N) (YP G L Ig row st tail N) N (.send .none) s := by
  obtain ⟨h, g, d, t, o⟩ := s
  refine ⟨rfl, ?_⟩
  obtain ⟨n, rfl⟩ : ∃ n, N = n + 1 := ⟨N - 1, by lia⟩
  have I := x.sta0 (w := w) (gKinds w L) (gFn w L)
  have nl := x.nL
  have hl : Has (hideAll h [L]) row (LstR ((st ++ tail).map .int)) := by
    obtain ⟨ob, e, p⟩ := x.list
    exact ⟨ob, hideAll_get _ e (by simp [Ne.symm nl.2.2]), p⟩
  rw [show gVals row st 0 = _ from by unfold gVals; rw [if_pos rfl]] at I
  have hIg := x.it0 rfl
  refine seg_func ?_
  refine seg_execs_cons ?_
  refine segW (xAssign ?_)
  refine xNone ?_
  refine storeZ I (i := 1) rfl fun h₁ t₁ hz I₁ => ?_
  simp only [setAt] at I₁
  refine seg_execs_cons ?_
  refine segFor ?_
  refine lR I₁ (i := 0) rfl rfl ?_
  refine pIterZ I₁ (I₁.old hl x.n5) fun h₂ I₂ => ?_
  have e : h₁.objs.size = Ig := hz.trans hIg
  rw [e] at I₂
  rw [e]
  intro p l
  have e0 : n + 1 - (n + 1) = 0 := by lia
  refine gFetch gg ok (by lia) (fun h => by
      cases n with
      | zero => cases h
      | succ m => exact (phases gg ok m (by lia)).1)
    (fun h => by
      cases n with
      | zero => cases h
      | succ m => exact (phases gg ok m (by lia)).2) ?_ (by lia) (fun q => by lia) x.gL x.gI x.n5 (lv := .none) (iv := .unb) ?_ hl (trans_hide _ (by simp))
  · refine ⟨rfl, rfl, fun c => over1 hh, ?_⟩
    rintro n' s₀ c s f (rfl | rfl) hp
    · exact seg_leaf (.ok .next) (seg_end (.ok (.ret .none)) ⟨rfl, hp⟩)
    · exact seg_leaf (.ok (.ret .none)) (seg_end (.ok (.ret .none)) ⟨rfl, hp⟩)
  · rw [e0]; exact I₂

theorem Sta.rebuild {B h h' : Heap} {env : Env} {names : List Str} {vals : List V} {led led' : Led} (I : Sta G B env names vals led h) (xs : List Addr) (g : Glob G h') (hx : ∀ a ∈ xs, B.get? a = none ∧ a ≠ env.locals)
    (k : ∀ b o, b ∉ xs → b ≠ 51 → b ≠ 58 → h.get? b = some o → h'.get? b = some o) (hl : ∀ p ∈ led', B.get? p.1 = none ∧ p.1 ≠ env.locals ∧ Has h' p.1 p.2) (hd : (led'.map (·.1)).Nodup) : Sta G B env names vals led' h' := by
  refine ⟨g, I.gB, I.low, fun b o e h1 h2 => k b o (fun hm => ?_) h1 h2 (I.keep b o e h1 h2), ?_, I.nod, I.kinds, I.fn, hl, hd⟩
  · rw [(hx b hm).1] at e; cases e
  · obtain ⟨m, ⟨ob, es, ep, q, r⟩, hv⟩ := I.loc
    have f := I.gB.free I.low
    exact ⟨m, ⟨ob, es, ep, k _ _ (fun hm => (hx _ hm).2 rfl) f.1 f.2 q, r⟩, hv⟩

/-- the iterator's entry -/
def PIg (row : Addr) (st : List Int) (k : Nat) (o : Obj) : Prop := if k ≤ st.length then ItL row k o else True

def GnO (gid : Nat) (o : Obj) : Prop := o.cls = .type "generator" ∧ ∃ a b, o.data = .fields #[.int gid 0, a, b] ∧ o.slots = #[]

/-- a StopIteration, made -/
theorem stopMade {M : Model} {A : Around} {E : Value → Shared → Prop} {s : Shared} {Q : Value → Shared → Prop}
    (h : ∀ h' e, (∀ b o, s.heap.get? b = some o → h'.get? b = some o) → Shared.TypeIs { s with heap := h' } (.ref e) "StopIteration" → Q (.ref e) { s with heap := h' }) : wpAny M A (newExc (.type "StopIteration") []) Q E s := by
  unfold newExc newTuple
  exact wpAny_bind (wpAny_newObj_type (wpAny_bind (m := firstArgMember _ _) (wpAny_of_eq (a := Value.none) rfl (wpAny_newObj_type
    (h _ _ (fun _ _ e => Heap.get?_push_of_some _ (Heap.get?_push_of_some _ e)) ⟨_, Heap.get?_push_size _ rfl, rfl⟩) (by size_fits)))) (by size_fits))
/-- next by a type's own slot: an item, or StopIteration -/
theorem nextBy {A : Around} {E : Value → Shared → Prop} {s : Shared} {it : Addr} {T id : String} {b : Builtin} {Q : Option Value → Shared → Prop} (hT : s.TypeIs (.ref it) T) (sl : Slot T "__next__" id) (en : entryFor table id = some b) (ar : argsOk id ⟨[.ref it], []⟩)
    (h : wpAny (model prog w) A.in1 (b ⟨[.ref it], []⟩) (fun r s' => ∃ v, r = .done (.ret v) ∧ Q (some v) s') (fun e s' => s'.TypeIs e "StopIteration" ∧ Q none s') s) : wpAny (model prog w) A (pyNext (.ref it)) Q E s := by
  unfold pyNext
  exact wpAny_bind (wpAny_attempt (wpAny_callSpecial?_slot hT sl (wpAny_call_entry sl hT en
    (wpAny_mono h (fun _ _ ⟨v, e, q⟩ => ⟨v, e, wpAny_pure q⟩) fun _ _ ⟨t, q⟩ => wpAny_bind (wpAny_isInstance t isSubtype_stop (wpAny_pure q))) ar)))
/-- the next item of a generator whose end is a bare return; its state is left bare -/
theorem nextQ {a : Addr} {g n : Nat} {gs : GenState} {P : Nat → Shared → Shared → Prop} {Y : Protocol} {E : Value → Shared → Prop} {s : Shared} {Q : Option Value → Shared → Prop} (hh : A.handled = none)
    (hl : s.heap.NoLimit) (hroom : A.depth < recursionLimit) (hg : s.heap.IsGen a g) (hgs : s.gens[g]? = some gs)
    (go : gs.Goes (model prog w) A.in1 (fun n z r z' => r = .ok (.ret .none) ∧ P n z z') Y n (.send .none) (s.setGen g .running))
    (item : ∀ v z gs', gs'.bare = true → Y (n - 1) (s.setGen g .running) v z (fun r z' => match n with
        | 0 => False
        | m + 1 => gs'.Goes (model prog w) A.in1 (fun n z r z' => r = .ok (.ret .none) ∧ P n z z') Y m r z') → Q (some v) (z.setGen g gs'))
    (over : ∀ z, P n (s.setGen g .running) z → ∀ h', (∀ b o, z.heap.get? b = some o → h'.get? b = some o) → Q none { z.setGen g .finished with heap := h' }) :
    wpAny (model prog w) A (pyNext (.ref a)) Q E s := by
  refine nextBy hg.typeIs slot_gen_next entry_gen_next (args_gen_next _) ?_
  have wake : gs ≠ .running → gs ≠ .finished → wpAny (model prog w) A.in1 (Builtin.Generator.genWake (.ref a) (.send .none)) (fun r s' => ∃ v, r = .done (.ret v) ∧ Q (some v) s') (fun e s' => s'.TypeIs e "StopIteration" ∧ Q none s') s := by
    intro n1 n2
    have res := fun K k1 k2 => wpAny_resumeQ (l := []) (k := K) (Q := fun r s' => ∃ v, r = Fin.done (.ret v) ∧ Q (some v) s') (E := fun e s' => s'.TypeIs e "StopIteration" ∧ Q none s') hgs go k1 k2
    unfold Builtin.Generator.genWake
    refine wpAny_bind (wpAny_holding (wpAny_genNumber hg (wpAny_bind (wpAny_genState hgs ?_))))
    cases gs
    case running => exact absurd rfl n1
    case finished => exact absurd rfl n2
    all_goals
      refine wpAny_bind (wpAny_roomToWake hl hroom ?_)
      refine res _ (fun x z q => ?_) fun v z gs' hb q => wpAny_pure ⟨v, rfl, item v z gs' hb q⟩
      obtain ⟨rfl, p⟩ := q
      show wpAny _ _ (newExc (.type "StopIteration") [] >>= _) _ _ _
      exact wpAny_bind (stopMade fun h' x k t => wpAny_bind (wpAny_raiseNew_none hh ⟨t, over z p h' k⟩))
  exact wake (fun e => by subst e; exact go.elim) (fun e => by subst e; exact go.elim)
theorem bare_set {gens : Array GenState} {i : Nat} {x : GenState} (h : AllBare gens) (hx : x.bare = true) : AllBare (gens.setIfInBounds i x) := fun y hy => by
  rcases Array.mem_or_eq_of_mem_setIfInBounds hy with e | e
  · exact h y e
  · exact e ▸ hx

theorem forGen {B h : Heap} {g : Array GenState} {d : Drawn} {t : Nat} {o : OsState} {env : Env} {names : List Str} {vals : List V} {led : Led} {a : Addr} {gid ix : Nat} {x : Str} {px : Pos} {body : List Stmt} {Q : Flow → Shared → Prop}
    (gg : GG w G mg mb) (ok : RowOK st tail) (hh : A.handled = none) (hroom : A.depth < recursionLimit) (hx : nth names ix = some x) (Inv : Nat → List V → Led → Prop)
    (I : Sta G B env names vals ((a, GnO gid) :: (L, GL gNames (gVals row st 0)) :: led) h) (hg : g[gid]? = some (.fresh (.func (bodyOf w.params 91) (cenv w 91 L)))) (h0 : Inv 0 vals led) (n5 : row ≠ 51 ∧ row ≠ 58) (hgb : AllBare g)
    (list : ∀ i vs ld h', Inv i vs ld → Sta G B env names vs ld h' → Has h' row (LstR ((st ++ tail).map .int))) (bound : ∀ k vs ld, Inv k vs ld → k < N)
    (step : ∀ k z vs ld h' g' t' ex, AllBare g' → told st tail k = some z → Inv k vs ld → Sta G B env names (setAt vs ix (.int z)) (ex ++ ld) h' →
      W prog w A (execs body env) (BodyPost (fun s' => ∃ h'' t'' vs' ld', s' = ⟨h'', g', d, t'' + 1, o⟩ ∧ Sta G B env names vs' (ex ++ ld') h'' ∧ Inv (k + 1) vs' ld') Q) ⟨h', g', d, t' + 1, o⟩)
    (done : ∀ k vs ld h' g' t', AllBare g' → told st tail k = none → Inv k vs ld → Sta G B env names vs ld h' → Q .next ⟨h', g', d, t' + 1, o⟩) : LoopW prog w A (.Name x px) body env Q (.ref a) ⟨h, g, d, t + 1, o⟩ := by
  -- the iterator's address
  generalize hIg : h.objs.size = Ig
  have hIgn : h.get? Ig = none := hIg ▸ none_size h
  have cast1 : ∀ vs ld h', Sta G B env names vs ((a, GnO gid) :: (L, GL gNames (gVals row st 0)) :: ld) h' → Sta G B env names vs ld h' := fun _ _ _ S => S.tail.tail
  let J : Nat → Shared → Prop := fun m s => ∃ k h' g' t' vs ld, m = N - k ∧ s = ⟨h', g', d, t' + 1, o⟩ ∧ AllBare g' ∧ Inv k vs ld ∧
    ((k = 0 ∧ h' = h ∧ Sta G B env names vs ((a, GnO gid) :: (L, GL gNames (gVals row st 0)) :: ld) h' ∧ g'[gid]? = some (.fresh (.func (bodyOf w.params 91) (cenv w 91 L)))) ∨
     (0 < k ∧ Sta G B env names vs ((a, GnO gid) :: (L, GL gNames (gVals row st k)) :: (Ig, PIg row st k) :: ld) h' ∧ ∃ gs, g'[gid]? = some gs ∧ ∀ s : Shared, GI G L Ig row st tail k s.heap → gs.Goes (model prog w) A.in1 (RP G L Ig st tail N) (YP G L Ig row st tail N) (N - k) (.send .none) s))
  refine ⟨J, N, ⟨0, h, g, t, vals, led, rfl, rfl, hgb, h0, .inl ⟨rfl, rfl, I, hg⟩⟩, ?_⟩
  rintro m s ⟨k, h', g', t', vs, ld, rfl, rfl, hgb', hI, hcase⟩
  have hkN := bound k vs ld hI
  have hBL : B.get? L = none ∧ L ≠ env.locals := let ⟨x, y, _⟩ := I.leds _ (.tail _ (.head _)); ⟨x, y⟩
  have hBI : B.get? Ig = none ∧ Ig ≠ env.locals := by
    refine ⟨I.free hIgn, ?_⟩
    rintro rfl
    obtain ⟨ob, e, _⟩ := I.live
    rw [hIgn] at e; cases e
  have gnone : ∀ b, B.get? b = none → G.get? b = none := fun b hb => by
    cases q : G.get? b with
    | none => rfl
    | some ob => rw [I.gB.keep _ _ q] at hb; cases hb
  -- the state, in one form
  have main : ∃ S : Sta G B env names vs ((a, GnO gid) :: (L, GL gNames (gVals row st k)) :: ld) h', (k = 0 → h'.objs.size = Ig) ∧ (0 < k → Has h' Ig (PIg row st k) ∧ Ig ≠ a ∧ Ig ≠ L ∧ Ig ∉ ld.map (·.1)) ∧ (k = 0 → h'.get? Ig = none) ∧
      ∃ gs, g'[gid]? = some gs ∧ ∀ s : Shared, GI G L Ig row st tail k s.heap → gs.Goes (model prog w) A.in1 (RP G L Ig st tail N) (YP G L Ig row st tail N) (N - k) (.send .none) s := by
    rcases hcase with ⟨rfl, rfl, S, hg'⟩ | ⟨h0, S, gs, hg', hgo⟩
    · exact ⟨S, fun _ => hIg, fun q => by lia, fun _ => hIgn, _, hg', fun s x => by
        have := gStart (prog := prog) (A := A.in1) (N := N) gg ok hh (by lia) s x
        exact this⟩
    · have S' : Sta G B env names vs ((Ig, PIg row st k) :: (a, GnO gid) :: (L, GL gNames (gVals row st k)) :: ld) h' := by
        refine { S with leds := fun p hp => S.leds p ?_, dist := ?_ }
        · simp only [List.mem_cons] at hp ⊢
          rcases hp with e | e | e | e <;> simp [e]
        · have D := S.dist
          simp only [List.map_cons, List.nodup_cons, List.mem_cons, not_or] at D ⊢
          exact ⟨⟨Ne.symm D.1.2.1, Ne.symm D.2.1.1, D.2.2.1⟩, ⟨D.1.1, D.1.2.2⟩, D.2.1.2, D.2.2.2⟩
      have D := S'.dist
      simp only [List.map_cons, List.nodup_cons, List.mem_cons, not_or] at D
      exact ⟨S'.tail, fun q => by lia, fun _ => ⟨S'.has (i := 0) rfl, D.1.1, D.1.2.1, D.1.2.2⟩, fun q => by lia, gs, hg', hgo⟩
  obtain ⟨S, hz, hit, hfr, gs, hgs, hgo⟩ := main
  have SL : Sta G B env names vs ld h' := S.tail.tail
  have hlist := list k vs ld h' hI SL
  have x0 : GI G L Ig row st tail k h' := ⟨S.glob, hlist, S.has (i := 1) rfl, hz, fun h1 h2 => by
      obtain ⟨⟨ob, e, p⟩, _⟩ := hit h1
      unfold PIg at p; rw [if_pos h2] at p; exact ⟨ob, e, p⟩, fun h1 => (let ⟨⟨ob, e, _⟩, _⟩ := hit h1; ⟨ob, e⟩), gnone _ hBL.1, gnone _ hBI.1, n5⟩
  obtain ⟨oa, ea, ca, t1, t2, da⟩ := S.has (i := 0) rfl
  refine .of (wpAny_with_toks (Nat.le_refl _) (nextQ (n := N - k) (P := PP G L Ig st tail N) (Y := YP G L Ig row st tail N) hh (gg.lim.keeps S.glob.keep) hroom ⟨oa, _, _, ea, ca, da⟩ hgs (hgo _ x0) ?_ ?_))
  · rintro v ⟨h₁, g₁, d₁, t₁, o₁⟩ gs' hbare ⟨z, u, rfl, hto, ⟨e1, e2, e3, hk⟩, x1, hnext⟩ hle
    obtain ⟨t₁, rfl⟩ := pos_ex (show t' + 1 ≤ t₁ from hle)
    have eg : g₁ = g'.setIfInBounds gid .running := e1
    have ed : d₁ = d := e2
    have eo : o₁ = o := e3
    subst eg ed eo
    have ek : N - 1 - (N - k - 1) = k := by lia
    have ek' : N - (N - k - 1) = k + 1 := by lia
    rw [ek] at hto
    rw [ek'] at x1 hnext
    have hk' : ∀ b ob, b ∉ [L, Ig] → b ≠ 51 → b ≠ 58 → h'.get? b = some ob → h₁.get? b = some ob := fun b ob hm n1 n2 e => hk b ob (fun q => hm (q ▸ .head _)) (fun q => hm (q ▸ .tail _ (.head _))) n1 n2 e
    have hIgL : Ig ≠ L := by
      by_cases q : 0 < k
      · exact (hit q).2.2.1
      · rintro rfl
        obtain ⟨ob, e, _⟩ := S.has (i := 1) rfl
        rw [hfr (by lia)] at e; cases e
    have hIga : Ig ≠ a ∧ Ig ∉ ld.map (·.1) := by
      by_cases q : 0 < k
      · exact ⟨(hit q).2.1, (hit q).2.2.2⟩
      · have hf := hfr (by lia)
        refine ⟨?_, fun hm => ?_⟩
        · rintro rfl; rw [ea] at hf; cases hf
        · obtain ⟨p, hp, e⟩ := List.mem_map.mp hm
          obtain ⟨_, _, ob, q', _⟩ := SL.leds p hp
          have e' : p.1 = Ig := e
          rw [e', hf] at q'; cases q'
    have D := S.dist
    simp only [List.map_cons, List.nodup_cons, List.mem_cons, not_or] at D
    have S₁ : Sta G B env names vs ((a, GnO gid) :: (L, GL gNames (gVals row st (k + 1))) :: (Ig, PIg row st (k + 1)) :: ld) h₁ := by
      refine S.rebuild [L, Ig] x1.glob ?_ hk' ?_ ?_
      · intro b hb
        rcases List.mem_cons.mp hb with rfl | hb
        · exact hBL
        · rw [List.mem_singleton.mp hb]; exact hBI
      · intro p hp
        have low : ∀ q ∈ ((a, GnO gid) :: ld : Led), q.1 ≠ L → q.1 ≠ Ig → B.get? q.1 = none ∧ q.1 ≠ env.locals ∧ Has h₁ q.1 q.2 := by
          intro q hq n1 n2
          have hq' : q ∈ ((a, GnO gid) :: (L, GL gNames (gVals row st k)) :: ld : Led) := by
            rcases List.mem_cons.mp hq with rfl | hq
            · exact .head _
            · exact .tail _ (.tail _ hq)
          obtain ⟨c1, c2, ob, c3, c4⟩ := S.leds q hq'
          have f := S.gB.free c1
          exact ⟨c1, c2, ob, hk q.1 ob n1 n2 f.1 f.2 c3, c4⟩
        simp only [List.mem_cons] at hp
        rcases hp with rfl | rfl | rfl | hp
        · exact low _ (.head _) D.1.1 (Ne.symm hIga.1)
        · exact ⟨hBL.1, hBL.2, x1.loc⟩
        · refine ⟨hBI.1, hBI.2, ?_⟩
          show Has h₁ Ig (PIg row st (k + 1))
          by_cases q : k + 1 ≤ st.length
          · obtain ⟨ob, e, p⟩ := x1.it (by lia) q
            exact ⟨ob, e, by unfold PIg; rw [if_pos q]; exact p⟩
          · -- the iterator stands, whatever it counts
            obtain ⟨ob, e⟩ := x1.live (by lia)
            exact ⟨ob, e, by unfold PIg; rw [if_neg q]; trivial⟩
        · exact low _ (.tail _ hp) (fun e => D.2.1 (List.mem_map.mpr ⟨p, hp, e⟩)) (fun e => hIga.2 (List.mem_map.mpr ⟨p, hp, e⟩))
      · simp only [List.map_cons, List.nodup_cons, List.mem_cons, not_or]
        exact ⟨⟨D.1.1, Ne.symm hIga.1, D.1.2⟩, ⟨Ne.symm hIgL, D.2.1⟩, hIga.2, D.2.2⟩
    have hgid : gid < g'.size := by
      rcases Array.getElem?_eq_some_iff.mp hgs with ⟨q, _⟩
      exact q
    have hg2 : ((g'.setIfInBounds gid .running).setIfInBounds gid gs')[gid]? = some gs' := by
      rw [Array.getElem?_setIfInBounds_self_of_lt (by simpa using hgid)]
    show W prog w A (assign (.Name x px) env (.int z u)) _ ⟨h₁, (g'.setIfInBounds gid .running).setIfInBounds gid gs', d₁, t₁ + 1, o₁⟩
    have hb2 : AllBare ((g'.setIfInBounds gid .running).setIfInBounds gid gs') := bare_set (bare_set hgb' rfl) hbare
    generalize ((g'.setIfInBounds gid .running).setIfInBounds gid gs') = g₂ at hg2 hb2
    refine .of (wpAny_assign_Name (W.out (sI S₁ hx fun h₂ t₂ S₂ => ?_)))
    refine (step k z vs ld h₂ g₂ t₂ [(a, GnO gid), (L, GL gNames (gVals row st (k + 1))), (Ig, PIg row st (k + 1))] hb2 hto hI S₂).mono fun f s' q => ?_
    have fin : (∃ h'' t'' vs' ld', s' = ⟨h'', g₂, d₁, t'' + 1, o₁⟩ ∧ Sta G B env names vs' ([(a, GnO gid), (L, GL gNames (gVals row st (k + 1))), (Ig, PIg row st (k + 1))] ++ ld') h'' ∧ Inv (k + 1) vs' ld') → ∃ m, m < N - k ∧ J m s' := by
      rintro ⟨h'', t'', vs', ld', rfl, S₃, hI'⟩
      have hb := bound _ _ _ hI'
      refine ⟨N - (k + 1), by lia, k + 1, h'', g₂, t'', vs', ld', rfl, rfl, hb2, hI', .inr ⟨by lia, S₃, gs', hg2, fun s y => ?_⟩⟩
      have q := hnext (by lia) s y
      obtain ⟨m, em⟩ : ∃ m, N - k = m + 1 := ⟨N - k - 1, by lia⟩
      rw [em] at q
      have em' : N - (k + 1) = m := by lia
      rw [em']
      exact q
    cases f with
    | next => exact fin q
    | cont => exact fin q
    | brk => exact q
    | ret v => exact q
  · rintro ⟨h₁, g₁, d₁, t₁, o₁⟩ ⟨hto, ⟨e1, e2, e3, hk⟩, hG⟩ h₂ hk2 hle
    obtain ⟨t₁, rfl⟩ := pos_ex (show t' + 1 ≤ t₁ from hle)
    have ed : d₁ = d := e2
    have eo : o₁ = o := e3
    subst ed eo
    have ek : N - (N - k) = k := by lia
    rw [ek] at hto
    have D := S.dist
    simp only [List.map_cons, List.nodup_cons, List.mem_cons, not_or] at D
    have hIga : Ig ∉ ld.map (·.1) := by
      by_cases q : 0 < k
      · exact (hit q).2.2.2
      · have hf := hfr (by lia)
        intro hm
        obtain ⟨p, hp, e⟩ := List.mem_map.mp hm
        obtain ⟨_, _, ob, q', _⟩ := SL.leds p hp
        have e' : p.1 = Ig := e
        rw [e', hf] at q'; cases q'
    have hb1 : AllBare g₁ := by
      have eg : g₁ = g'.setIfInBounds gid .running := e1
      rw [eg]; exact bare_set hgb' rfl
    refine done k vs ld h₂ _ t₁ (bare_set hb1 rfl) hto hI (SL.rebuild [L, Ig] (hG.keeps hk2) ?_ ?_ ?_ SL.dist)
    · intro b hb
      rcases List.mem_cons.mp hb with rfl | hb
      · exact hBL
      · rw [List.mem_singleton.mp hb]; exact hBI
    · exact fun b ob hm n1 n2 e => hk2 _ _ (hk b ob (fun q => hm (q ▸ .head _)) (fun q => hm (q ▸ .tail _ (.head _))) n1 n2 e)
    · intro p hp
      obtain ⟨c1, c2, ob, c3, c4⟩ := SL.leds p hp
      have f := SL.gB.free c1
      exact ⟨c1, c2, ob, hk2 _ _ (hk p.1 ob (fun e => D.2.1 (List.mem_map.mpr ⟨p, hp, e⟩)) (fun e => hIga (List.mem_map.mpr ⟨p, hp, e⟩)) f.1 f.2 c3), c4⟩
end
end Mine
end PartMGen4

section PartMSeq2
open PySem PySem.W PyProof.Rows
set_option autoImplicit false
set_option linter.unusedVariables false
namespace Mine
section
variable {G B h : Heap} {env : Env} {names : List Str} {vals : List V} {led led' : Led}
theorem Sta.perm (I : Sta G B env names vals led h) (p : led'.Perm led) : Sta G B env names vals led' h :=
  { I with leds := fun q hq => I.leds q (p.mem_iff.mp hq), dist := (p.map _).nodup_iff.mpr I.dist }
theorem Sta.rot (I : Sta G B env names vals (led ++ led') h) : Sta G B env names vals (led' ++ led) h := I.perm List.perm_append_comm
end
section
variable {prog : Program} {w : World} {A : Around} {s : Shared} {env : Env} {R : Value → Shared → Prop} {Q : Flow → Shared → Prop}
@[reducible] def Met2 (prog : Program) (w : World) (A : Around) (pos : Pos) (args : List Expr) (env : Env) (R : Value → Shared → Prop) (fx : Value × List Value) (s : Shared) : Prop := W prog w A (callWith pos fx.1 fx.2 (backTo pos (starEach args env)) []) R s
@[reducible] def Met1 (prog : Program) (w : World) (A : Around) (name : Str) (pl : Sem Bool) (pos : Pos) (args : List Expr) (env : Env) (R : Value → Shared → Prop) (ov : Value) (s : Shared) : Prop := W prog w A (getMethod ov name pl) (Met2 prog w A pos args env R) s
@[reducible] def Met3 (prog : Program) (w : World) (A : Around) (id : String) (first : List Value) (R : Value → Shared → Prop) (vs : List Value) (s : Shared) : Prop := W prog w A (call (.builtin id) (first ++ vs)) R s
@[reducible] def DefK (prog : Program) (w : World) (A : Around) (f : Addr) (ob : Obj) (R : Value → Shared → Prop) (vs : List Value) (s : Shared) : Prop := s.heap.get? f = some ob ∧ W prog w A (call (.ref f) vs) R s
theorem xBreak {pos : Pos} (h : Q .brk s) : W prog w A (exec (.Break pos) env) Q s := .of (wpAny_Break h)
theorem xExpr {e : Expr} {pos : Pos} (h : W prog w A (eval e env) (NextK Q) s) (hi : interactive env = false := by kernel_rfl) (hs : swapsWith e none pos.line env = pure false := by kernel_rfl) : W prog w A (exec (.Expr e pos) env) Q s :=
  .of (wpAny_Expr_any h.out hi hs)
theorem xMeth {ob : Expr} {name : Str} {apos pos : Pos} {args : List Expr} {pl : Sem Bool} (h : W prog w A (eval ob env) (Met1 prog w A name pl pos args env R) s)
    (he : eval (.Call (.Attribute ob name apos) args [] pos) env = (do
      let ov ← eval ob env
      standAt apos.atName
      let (f, first) ← holding [ov] (getMethod ov name pl)
      callWith pos f first (backTo pos (starEach args env)) []) := by rfl) : W prog w A (eval (.Call (.Attribute ob name apos) args [] pos) env) R s :=
  .of (MethodCall_ (wpAny_mono h.out (fun _ _ q => wpAny_mono (W.out q) (fun _ _ q => W.out q) fun _ _ q => q) fun _ _ q => q) he)
theorem xMeth1 {pos : Pos} {id : String} {first : List Value} {e : Expr} {rest : List Expr} (h : W prog w A (spliced (backTo pos (starEach (e :: rest) env))) (Met3 prog w A id first R) s)
    (he : starEach (e :: rest) env = (false, eval e env) :: starEach rest env := by kernel_rfl) (hplain : (backTo pos (starEach rest env)).any (·.1) = false := by kernel_rfl) :
    W prog w A (callWith pos (.builtin id) first (backTo pos (starEach (e :: rest) env)) []) R s :=
  .of (callWith_method1 (wpAny_mono h.out (fun _ _ q => W.out q) fun _ _ q => q) he hplain)
theorem xMeth0 {pos : Pos} {id : String} {first : List Value} (h : W prog w A (call (.builtin id) first) R s) : W prog w A (callWith pos (.builtin id) first (backTo pos (starEach [] env)) []) R s := .of (callWith_method0 h.out)
theorem xDef {pos : Pos} {f : Addr} {ob : Obj} {fd : FuncData} {e : Expr} {rest : List Expr} (hdat : ob.data = .func fd) (h : W prog w A (spliced (backTo pos (starEach (e :: rest) env))) (DefK prog w A f ob R) s)
    (he : starEach (e :: rest) env = (false, eval e env) :: starEach rest env := by kernel_rfl) : W prog w A (callWith pos (.ref f) [] (backTo pos (starEach (e :: rest) env)) []) R s :=
  .of (callWith_def hdat (wpAny_mono h.out (fun _ _ q => ⟨q.1, q.2.out⟩) fun _ _ q => q) he)
end

section
variable {prog : Program} {w : World} {A : Around} {G B h : Heap} {g : Array GenState} {d : Drawn} {t : Nat} {o : OsState} {env : Env} {names : List Str} {vals : List V} {led : Led} {Q : Value → Shared → Prop} {u ta tb : Tok} {mg mb : Str → Option Value}
theorem cLen {l : Addr} {ds : List V} (hl : Has h l (LstR ds)) (hf : ds.length < 2 ^ 62) (c : ∀ u t', Q (.int ds.length u) ⟨h, g, d, t' + 1, o⟩) : W prog w A (call (.builtin "len") [.ref l]) Q ⟨h, g, d, t + 1, o⟩ := by
  obtain ⟨vs, hl', hv⟩ := hl.isListR
  refine .of (PyProof.Rows.len_list hl' (by simp only [List.size_toArray, hv.length]; lia) ?_)
  simp only [List.size_toArray, hv.length]
  exact c _ _
theorem iMin {a b : Int} (hh : A.handled = none) (c : ∀ h' u t', (∀ x y, h.get? x = some y → h'.get? x = some y) → Q (.int (min a b) u) ⟨h', g, d, t' + 1, o⟩) : W prog w A (call (.builtin "min") [.int a ta, .int b tb]) Q ⟨h, g, d, t + 1, o⟩ := by
  refine W.tk (.of (PySem.Flt.min_two_num hh (.int a ta) (.int b tb) fun h' tk k hle => ?_))
  obtain ⟨tk, rfl⟩ := pos_ex hle
  unfold PySem.Flt.ltV
  by_cases q : b < a
  · simp only [q, decide_true, if_true]
    rw [show b = min a b by lia]
    exact c h' tb tk k
  · simp only [q, decide_false, Bool.false_eq_true, if_false]
    rw [show a = min a b by lia]
    exact c h' ta tk k
theorem mAppend {l : Addr} {ds : List V} {pl : Sem Bool} {Q : Value × List Value → Shared → Prop} (hl : Has h l (Lst ds)) (c : Q (.builtin "list.append", [.ref l]) ⟨h, g, d, t, o⟩) : W prog w A (getMethod (.ref l) (Str.ofString "append") pl) Q ⟨h, g, d, t, o⟩ := by
  obtain ⟨vs, n, e, hv⟩ := hl.list
  exact .of (Calls.getMethod_list_append e rfl rfl c)
theorem cAppend {l : Addr} {ds : List V} {i : Nat} {v : Value} (I : Sta G B env names vals led h) (hi : nth led i = some (l, Lst ds)) (hsz : ds.length ≤ sizeLine)
    (c : ∀ h', Sta G B env names vals (setAt led i (l, Lst (ds ++ [V.of v]))) h' → Q .none ⟨h', g, d, t, o⟩) : W prog w A (call (.builtin "list.append") ([.ref l] ++ [v])) Q ⟨h, g, d, t, o⟩ := by
  obtain ⟨vs, n, e, hv⟩ := (I.has hi).list
  refine .of (wpAny_list_append_plain ⟨n, e⟩ (fun h' hl' hs => ?_) (by have := hv.length; simp at this; lia))
  obtain ⟨n', e'⟩ := hl'
  refine c h' (I.upd hi (fun o => Lst.nc o) (fun b o hb e => (hs.2 b hb).trans e) e' ⟨_, _, rfl, ?_⟩)
  obtain ⟨tt, et⟩ := V.of_val v
  have := hv.append (Vals.cons (V.of v) tt .nil)
  rw [← et] at this
  simpa using this
/-- xs + ys -/
theorem lAdd {l b : Addr} {ds es : List V} (I : Sta G B env names vals led h) (hl : Has h l (LstR ds)) (hb : Has h b (LstR es)) (hsz : ds.length + es.length ≤ sizeLine)
    (c : ∀ r h', Sta G B env names vals ((r, Lst (ds ++ es)) :: led) h' → Q (.ref r) ⟨h', g, d, t, o⟩) : W prog w A (binaryOp .Add (.ref l) (.ref b)) Q ⟨h, g, d, t, o⟩ := by
  obtain ⟨vs, hl', hv⟩ := hl.isListR
  obtain ⟨ws, hb', hw⟩ := hb.isListR
  obtain ⟨m, F, N, k⟩ := I.fr
  refine .of (add_arrays (s := ⟨h, g, d, t, o⟩) F N hl' hb' (fun h' F' N' => ?_) (by simp [hv.length, hw.length]; exact hsz))
  have q := k h' [_] F' N'
  exact c _ _ (I.frPush (m := m) q (none_size h) (N' _ (.head _)).1 ⟨_, _, rfl, by simpa using hv.append hw⟩)
/-- [x] * n -/
theorem lMul {l : Addr} {v : V} {n : Int} (I : Sta G B env names vals led h) (hl : Has h l (Lst [v])) (hn : n < 4096) (hn0 : -4096 < n)
    (c : ∀ r h', Sta G B env names vals ((r, Lst (List.replicate n.toNat v)) :: led) h' → Q (.ref r) ⟨h', g, d, t, o⟩) : W prog w A (binaryOp .Mult (.ref l) (.int n u)) Q ⟨h, g, d, t, o⟩ := by
  obtain ⟨vs, k, e, hv⟩ := hl.list
  obtain ⟨m, F, N, kk⟩ := I.fr
  have hs1 : vs.size = 1 := by have := hv.length; simpa using this
  refine .of (mul_list (s := ⟨h, g, d, t, o⟩) F N e (by lia) (by lia) (by rw [hs1]; lia) (fun h' F' N' => ?_))
  have q := kk h' [_] F' N'
  refine c _ _ (I.frPush (m := m) q (none_size h) (N' _ (.head _)).1 ⟨_, _, rfl, ?_⟩)
  have hne : vs.isEmpty = false := by simp [Array.isEmpty, hs1]
  rw [if_neg (by rw [hne]; simp)]
  have : ∀ (k : Nat) (acc : Array Value) (as : List V), Vals acc.toList as → Vals (List.foldl (fun x1 x2 => x1 ++ x2) acc (List.replicate k vs)).toList (as ++ List.replicate k v) := by
    intro k
    induction k with
    | zero => intro acc as ha; simpa using ha
    | succ k ih =>
      intro acc as ha
      rw [List.replicate_succ, List.foldl_cons, List.replicate_succ]
      have := ih (acc ++ vs) (as ++ [v]) (by simpa using ha.append hv)
      simpa using this
  simpa using this n.toNat #[] [] .nil
/-- the call of the generator's def -/
theorem mkGen {row : Addr} {st : List Int} (gg : GG w G mg mb) (I : Sta G B env names vals led h) (hroom : A.depth < recursionLimit)
    (c : ∀ a L h' t', Sta G B env names vals ((a, GnO g.size) :: (L, GL gNames (gVals row st 0)) :: led) h' → Q (.ref a) ⟨h', g.push (.fresh (.func (bodyOf w.params 91) (cenv w 91 L))), d, t' + 1, o⟩) : W prog w A (call (.ref 91) [.ref row]) Q ⟨h, g, d, t + 1, o⟩ := by
  have at_ : (KK w.params).lookup 91 = some (fnObj w.params 91) := by kernel_rfl
  refine .of (wpAny_call (codeAny_call_generator (fd := fdOf w.params 91) (body := bodyOf w.params 91) hroom (I.glob.keep _ _ (gg.X 91 _ at_)) rfl (by kernel_rfl) (by kernel_rfl) (by kernel_rfl)
    ((codeRec_of gg.X (cd := (fdOf w.params 91).code) (q := (fdOf w.params 91).qualname) (by kernel_rfl)).keeps I.glob.keep) ?_))
  refine wpAny_of_eq (a := [(Str.ofString "grouping", Value.ref row)]) (by kernel_rfl) ?_
  have hc : ((fdOf w.params 91).scope.names.all fun x => x.2 != .cell) = true := by kernel_rfl
  refine wpAny_newFunctionEnv (fun x hx e => ?_) (fun x hx => ?_) (fun h₁ hns hsb => ?_) (by kernel_rfl)
  · have := List.all_eq_true.mp hc x hx
    rw [e] at this; cases this
  · rw [List.mem_singleton.mp hx]
    exact gKinds w 0 _ (.head _)
  · have kp : ∀ b ob, h.get? b = some ob → h₁.get? b = some ob := fun b ob e => hsb.extBut b ob (Nat.ne_of_lt (Heap.lt_size e)) (Heap.get?_push_of_some _ e)
    have hL : Has h₁ h.objs.size (GL gNames (gVals row st 0)) := Loc.gl ⟨_, hns, fun i x dd h1 h2 h3 => by
      unfold gVals at h2; rw [if_pos rfl] at h2
      match i with
      | 0 => cases h1; cases h2; exact ⟨0, by simp [List.lookup]⟩
      | 1 => cases h2; exact absurd rfl h3
      | 2 => cases h2; exact absurd rfl h3
      | j + 3 => cases h2⟩
    obtain ⟨oL, eL, pL⟩ := hL
    have I1 : Sta G B env names vals ((h.objs.size, GL gNames (gVals row st 0)) :: led) h₁ := I.pushK kp (none_size h) eL pL
    refine ⟨(gg.lim.keeps I.glob.keep).keeps kp, ?_⟩
    exact c _ _ _ _ (I1.pushK (fun _ _ e => Heap.get?_push_of_some _ e) (none_size h₁) (Heap.get?_push_size _ rfl) ⟨rfl, _, _, rfl, rfl⟩)
end
end Mine
end PartMSeq2

section PartMImages
open PySem PySem.W PyProof.Rows
set_option autoImplicit false
set_option linter.unusedVariables false
namespace Mine

def reachK (size : Int) (st tail : List Int) : Nat → Int
  | 0 => 0
  | k + 1 => match told st tail k with
    | some z => min size (reachK size st tail k + z - 1)
    | none => reachK size st tail k
def imagesF (size first : Int) (st tail : List Int) : List Int := (List.range size.toNat).map fun k => first + reachK size st tail k

theorem told_none {st tail : List Int} {k j : Nat} (h : told st tail k = none) (hj : k ≤ j) : told st tail j = none := by
  unfold told at h ⊢
  by_cases q : k < st.length
  · rw [if_pos q] at h; cases h
  · rw [if_neg q] at h
    rw [if_neg (by lia)]
    exact h
theorem reach_const {size : Int} {st tail : List Int} {k : Nat} (h : told st tail k = none) : ∀ j, k ≤ j → reachK size st tail j = reachK size st tail k
  | 0, hj => by rw [Nat.le_zero.mp hj]
  | j + 1, hj => by
    by_cases q : k = j + 1
    · rw [q]
    · have : reachK size st tail (j + 1) = reachK size st tail j := by
        rw [reachK, told_none h (by lia)]
      rw [this, reach_const h j (by lia)]

theorem d105 (P : Params) : DefOk P 105 [Str.ofString "size", Str.ofString "first", Str.ofString "row"] [Str.ofString "images", Str.ofString "reach", Str.ofString "told"] where
  at_ := by kernel_rfl
  body := by kernel_rfl
  code := by kernel_rfl
  co := by kernel_rfl
  gen := by kernel_rfl
  fn := by kernel_rfl
  cell := by kernel_rfl
  loc := by kernel_rfl
  nod := by decide +kernel

theorem depth_deeper {A : Around} {env : Env} : (A.deeper env).depth = A.depth + 1 := rfl

section
variable {prog : Program} {w : World} {A : Around} {G h : Heap} {g : Array GenState} {d : Drawn} {t : Nat} {o : OsState} {mg mb : Str → Option Value}
theorem law_images_ok {size first : Int} {t1 t2 : Tok} {row : Addr} {st tail : List Int} {Q : Value → Shared → Prop} (gg : GG w G mg mb) (hg : Glob G h) (hroom : A.depth + 1 < recursionLimit) (hh : A.handled = none)
    (ok : RowOK st tail) (hrow : Has h row (LstR ((st ++ tail).map .int))) (n5 : row ≠ 51 ∧ row ≠ 58) (h1 : 1 ≤ size) (h2 : size ≤ 1000) (hgb : AllBare g)
    (k' : ∀ h' t' g' r, AllBare g' → Kept h h' → Glob G h' → h.get? r = none → Has h' r (Lst ((imagesF size first st tail).map .int)) → Q (.ref r) ⟨h', g', d, t' + 1, o⟩) :
    W prog w A (call (.ref 105) [.int size t1, .int first t2, .ref row]) Q ⟨h, g, d, t + 1, o⟩ := by
  refine enterN (names := [Str.ofString "size", Str.ofString "first", Str.ofString "row", Str.ofString "images", Str.ofString "reach", Str.ofString "told"]) (vals := [.int size, .int first, .ref row, .unb, .unb, .unb]) gg hg (d105 _) (by lia) rfl (by kernel_rfl) rfl rfl fun h0 t0 I => ?_
  refine xCons ?_
  refine xAssign ?_
  refine xList ?_
  refine xArg ?_
  refine lI I (i := 1) rfl rfl fun _ => ?_
  refine xArgs ?_
  refine mkList I rfl fun im h1 I1 => ?_
  refine sR I1 (i := 3) rfl fun h2 t2 I2 => ?_
  simp only [setAt] at I2
  refine xCons ?_
  refine xAssign ?_
  refine cInt fun _ _ => ?_
  refine sI I2 (i := 4) rfl fun h3 t3 I3 => ?_
  simp only [setAt] at I3
  refine xCons ?_
  refine xFor ?_
  refine xCall ?_
  refine gload gg I3.glob (n_grouping_intervals _) ?_
  refine xDef (ob := fnObj w.params 91) rfl ?_
  refine xArg ?_
  refine lR I3 (i := 2) rfl rfl ?_
  refine xArgs ⟨I3.glob.keep _ _ (gg.X 91 _ (by kernel_rfl)), ?_⟩
  refine mkGen (st := st) gg I3 (by rw [depth_deeper]; exact hroom) fun a L h4 t4 I4 => ?_
  obtain ⟨oa, ea, ca, b1, b2, da⟩ := I4.has (i := 0) rfl
  have fin : ∀ (k : Nat) (h' : Heap) (g' : Array GenState) (t' : Nat) (ld : Led) (tv : V), AllBare g' → (k : Int) + 1 ≤ size → ((k : Int) + 1 = size ∨ told st tail k = none) →
      Sta G h (cenv w 105 h.objs.size) [Str.ofString "size", Str.ofString "first", Str.ofString "row", Str.ofString "images", Str.ofString "reach", Str.ofString "told"] [.int size, .int first, .ref row, .ref im, .int (reachK size st tail k), tv]
        ((im, Lst (((List.range (k + 1)).map fun j => first + reachK size st tail j).map V.int)) :: ld) h' →
      W prog w (A.deeper (cenv w 105 h.objs.size)) (execs ((bodyOf w.params 105).drop 3) (cenv w 105 h.objs.size)) (fun fl s' => Q (retOf fl) s') ⟨h', g', d, t' + 1, o⟩ := by
    intro k h' g' t' ld tv hb hk hor J
    refine xCons ?_
    refine xReturn ?_
    refine xBin ?_
    refine lR J (i := 3) rfl rfl ?_
    refine xBin ?_
    refine xList ?_
    refine xArg ?_
    refine xBin ?_
    refine lI J (i := 1) rfl rfl fun _ => ?_
    refine lI J (i := 4) rfl rfl fun _ => ?_
    refine iAdd fun _ _ => ?_
    refine xArgs ?_
    refine mkList J rfl fun r5 h5 J5 => ?_
    refine xBin ?_
    refine lI J5 (i := 0) rfl rfl fun _ => ?_
    refine xCall ?_
    refine bload gg J5.glob (b_len _) ?_
    refine xBuiltin ?_
    refine xArg ?_
    refine lR J5 (i := 3) rfl rfl ?_
    refine xArgs ?_
    refine cLen (J5.has (i := 1) rfl).r (by simp; lia) fun _ _ => ?_
    refine iSub fun _ _ => ?_
    refine lMul J5 (J5.has (i := 0) rfl) (by simp; lia) (by simp; lia) fun r6 h6 J6 => ?_
    refine lAdd J6 (J6.has (i := 2) rfl).r (J6.has (i := 0) rfl).r (by simp [sizeLine]; lia) fun r7 h7 J7 => ?_
    refine k' _ _ _ _ hb J7.keep J7.glob (J7.fresh (i := 0) rfl) ?_
    have e : ((imagesF size first st tail).map V.int) = ((List.range (k + 1)).map fun j => first + reachK size st tail j).map V.int ++ List.replicate (size - (((List.range (k + 1)).map fun j => first + reachK size st tail j).map V.int).length).toNat (V.int (first + reachK size st tail k)) := by
      simp only [List.length_map, List.length_range]
      unfold imagesF
      apply List.ext_getElem
      · simp; lia
      · intro i h1 h2
        simp only [List.length_map, List.length_range] at h1
        by_cases q : i < k + 1
        · rw [List.getElem_append_left (by simpa using q)]; simp
        · rw [List.getElem_append_right (by simpa using q)]
          simp only [List.getElem_map, List.getElem_range, List.getElem_replicate]
          rcases hor with e | e
          · lia
          · rw [reach_const e i (by lia)]
    rw [e]
    exact J7.has (i := 0) rfl
  refine .of (wpAny_pyIter_gen (g := g.size) ⟨oa, _, _, ea, ca, da⟩ ?_)
  refine forGen (row := row) (tail := tail) (N := size.toNat + 1) (ix := 5) gg ok hh (by rw [depth_deeper]; exact hroom) rfl
    (fun k vs ld => (k : Int) + 1 ≤ size ∧ ∃ tv : V, vs = [.int size, .int first, .ref row, .ref im, .int (reachK size st tail k), tv] ∧ ld = [(im, Lst (((List.range (k + 1)).map fun j => first + reachK size st tail j).map V.int))])
    I4 (by simp) ⟨by lia, _, rfl, by simp [reachK, V.of]⟩ n5 (hgb.push rfl) ?_ ?_ ?_ ?_
  · rintro i vs ld h' ⟨_, tv, rfl, rfl⟩ J
    exact J.old hrow n5
  · rintro k vs ld ⟨hk, _⟩
    lia
  · rintro k z vs ld h' g' t' ex hgb' hto ⟨hk, tv, rfl, rfl⟩ J
    simp only [setAt] at J
    -- the list lies first
    have J : Sta G h _ _ _ ((im, Lst (((List.range (k + 1)).map fun j => first + reachK size st tail j).map V.int)) :: ex) h' := J.rot
    refine xCons ?_
    refine xIf ?_
    refine xTest ?_
    refine xCall ?_
    refine bload gg J.glob (b_len _) ?_
    refine xBuiltin ?_
    refine xArg ?_
    refine lR J (i := 3) rfl rfl ?_
    refine xArgs ?_
    refine cLen (J.has (i := 0) rfl).r (by simp; lia) fun _ _ => ?_
    refine lI J (i := 0) rfl rfl fun _ => ?_
    refine iEq ?_
    refine tBool ?_
    simp only [List.length_map, List.length_range]
    by_cases q : (((k + 1 : Nat) : Int) == size) = true
    · refine br_t q ?_
      refine xCons ?_
      refine xBreak ?_
      have e : ((k + 1 : Nat) : Int) = size := by simpa using q
      exact fin k h' g' _ ex _ hgb' hk (.inl (by lia)) J
    · refine br_n q ?_
      have e : ¬ ((k + 1 : Nat) : Int) = size := by simpa using q
      refine xNil ?_
      refine xCons ?_
      refine xAssign ?_
      refine xCall ?_
      refine bload gg J.glob (b_min _) ?_
      refine xBuiltin ?_
      refine xArg ?_
      refine lI J (i := 0) rfl rfl fun _ => ?_
      refine xArg ?_
      refine xBin ?_
      refine xBin ?_
      refine lI J (i := 4) rfl rfl fun _ => ?_
      refine lI J (i := 5) rfl rfl fun _ => ?_
      refine iAdd fun _ _ => ?_
      refine cInt fun _ _ => ?_
      refine iSub fun _ _ => ?_
      refine xArgs ?_
      refine iMin hh fun h5 _ _ K5 => ?_
      have J5 := J.ext K5
      refine sI J5 (i := 4) rfl fun h6 t6 J6 => ?_
      simp only [setAt] at J6
      refine xCons ?_
      refine xExpr ?_
      refine xMeth ?_
      refine lR J6 (i := 3) rfl rfl ?_
      refine mAppend (J6.has (i := 0) rfl) ?_
      refine xMeth1 ?_
      refine xArg ?_
      refine xBin ?_
      refine lI J6 (i := 1) rfl rfl fun _ => ?_
      refine lI J6 (i := 4) rfl rfl fun _ => ?_
      refine iAdd fun _ _ => ?_
      refine xArgs ?_
      refine cAppend J6 (i := 0) rfl (by simp [sizeLine]; lia) fun h7 J7 => ?_
      refine xNil ?_
      have er : reachK size st tail (k + 1) = min size (reachK size st tail k + z - 1) := by rw [reachK, hto]
      have J8 : Sta G h (cenv w 105 h.objs.size) [Str.ofString "size", Str.ofString "first", Str.ofString "row", Str.ofString "images", Str.ofString "reach", Str.ofString "told"] [.int size, .int first, .ref row, .ref im, .int (reachK size st tail (k + 1)), .int z]
          ([(im, Lst (((List.range (k + 1 + 1)).map fun j => first + reachK size st tail j).map V.int))] ++ ex) h7 := by
        rw [List.range_succ, List.map_append, List.map_append]
        simp only [List.map_cons, List.map_nil]
        rw [er]
        exact J7
      exact ⟨h7, _, _, _, rfl, J8.rot, by lia, _, rfl, rfl⟩
  · rintro k vs ld h' g' t' hgb' hto ⟨hk, tv, rfl, rfl⟩ J
    exact fin k h' g' _ [] _ hgb' hk (.inr hto) J
end
end Mine
end PartMImages

section PartMComp
open PySem PySem.W PyProof.Rows
set_option autoImplicit false
set_option linter.unusedVariables false
namespace Mine

section
variable {prog : Program} {w : World} {A : Around} {G B h : Heap} {g : Array GenState} {d : Drawn} {t : Nat} {o : OsState} {env : Env} {names : List Str} {vals : List V} {led : Led} {Q : Value → Shared → Prop}

def CompW (prog : Program) (w : World) (A : Around) (env : Env) (scope : Scope) (cl : List (Str × Addr)) (e : Expr) (Q : Value → Shared → Prop) (it : Value) (s₂ : Shared) : Prop :=
  wpAny (model prog w) A (newList []) (fun acc s₃ => wpAny (model prog w) A (newFunctionEnv scope env.globals cl [] env.qual none .none (some env)) (fun cenv s₄ =>
        codeAny (model prog w) A (.compStart e 0 it acc { cenv with scope := relabel scope env }) (compPost (model prog w) A NoE none Q acc cenv.locals) s₄) NoE s₃) NoE s₂

theorem xComp {elt iter : Expr} {x : Str} {px pos : Pos} {scope : Scope} {cl : List (Str × Addr)} {s : Shared}
    (h : W prog w A (eval iter env) (fun xv s₁ => W prog w A (pyIter xv) (fun it s₂ => CompW prog w A env scope cl (.ListComp elt [⟨.Name x px, iter, [], 0⟩] scope pos) Q it s₂) s₁) s)
    (hclos : closureFor scope env = pure cl := by kernel_rfl) (hkind : scope.kind = .function := by kernel_rfl)
    (hnames : (scope.names.all fun y => y.2 != .local || scope.names.lookup y.1 == some .local) = true := by kernel_rfl)
    (hs : ∀ x, foldedSetIterable iter env x = pure x := by intro _; kernel_rfl) : W prog w A (eval (.ListComp elt [⟨.Name x px, iter, [], 0⟩] scope pos) env) Q s := by
  refine .of ?_
  rw [eval_ListComp]
  refine wpAny_comprehension_free (use := none) rfl hs hclos hkind (fun y hy e => ?_) (wpAny_mono h.out (fun xv s₁ h₁ => wpAny_mono h₁.out (fun it s₂ h₂ => h₂) fun _ _ e => e) fun _ _ e => e)
  have := List.all_eq_true.mp hnames y hy
  rw [e] at this
  exact beq_local (by simpa using this)

theorem compIt {elt iter : Expr} {x : Str} {px pos : Pos} {scope : Scope} {cl : List (Str × Addr)} {a : Addr} {n : Nat} {P : Nat → V → Prop} {St : Nat → Obj → Prop} {Aux : Heap → Prop} (It : Iter prog w A a n P St Aux)
    (I : Sta G B env names vals ((a, St 0) :: led) h) (hn : n ≤ 4096) (out : Nat → V)
    (aux : ∀ h', (∀ b R, Has h b R → b ≠ a → b ≠ 51 → b ≠ 58 → Has h' b R) → Aux h')
    (step : ∀ i v C h' t' B' ex, i < n → P i v → (∀ b R, Has h b R → b ≠ a → Has B' b R) → Sta G B' (compEnvC scope cl C env) [x] [v] ex h' →
      W prog w A (eval elt (compEnvC scope cl C env)) (fun r s' => ∃ h'' t'' u ex', s' = ⟨h'', g, d, t'' + 1, o⟩ ∧ r = (out i).val u ∧ Sta G B' (compEnvC scope cl C env) [x] [v] (ex' ++ ex) h'') ⟨h', g, d, t' + 1, o⟩)
    (pr : ∀ i, i < n → (out i).proper)
    (done : ∀ D h' t', Sta G B env names vals ((D, Lst ((List.range n).map out)) :: led) h' → Q (.ref D) ⟨h', g, d, t' + 1, o⟩)
    (hcell : (scope.names.all fun x => x.2 != .cell) = true := by kernel_rfl) (hkind : scope.kind = .function := by kernel_rfl) (hx : (scope.names.lookup x == some .local) = true := by kernel_rfl) :
    CompW prog w A env scope cl (.ListComp elt [⟨.Name x px, iter, [], 0⟩] scope pos) Q (.ref a) ⟨h, g, d, t + 1, o⟩ := by
  unfold CompW
  have hcell' : ∀ y ∈ scope.names, y.2 ≠ .cell := fun y hy e => by
    have := List.all_eq_true.mp hcell y hy
    rw [e] at this; cases this
  have hx' : scope.names.lookup x = some .local := beq_local hx
  obtain ⟨hBa, hLa, oa, ea, pa⟩ := I.leds _ (.head _)
  have fa := I.gB.free hBa
  refine wpAny_newObj_type (wpAny_newFunctionEnv hcell' (by intro y hy; simp at hy) (fun h₁ hns hsb => ?_) hkind)
  dsimp only at hns hsb ⊢
  generalize hH2 : h.push { cls := .type "list", dict := none, data := .seq ([] : List Value).toArray } = H2 at hns hsb ⊢
  have hC : H2.objs.size = h.objs.size + 1 := by rw [← hH2, Heap.size_push]
  have hDC : h.objs.size ≠ H2.objs.size := by rw [hC]; exact Nat.ne_of_lt (Nat.lt_succ_self _)
  have old : ∀ b ob, h.get? b = some ob → h₁.get? b = some ob := fun b ob e => hsb.extBut b ob (by rw [hC]; exact Nat.ne_of_lt (Nat.lt_succ_of_lt (Heap.lt_size e))) (Heap.get?_push_of_some _ (hH2 ▸ Heap.get?_push_of_some _ e))
  have hD1 : h₁.get? h.objs.size = some { cls := .type "list", dict := none, data := .seq ([] : List Value).toArray } := hsb.extBut _ _ hDC (Heap.get?_push_of_some _ (hH2 ▸ Heap.get?_push_size _ rfl))
  have hnC : h.get? H2.objs.size = none := by
    cases q : h.get? H2.objs.size with
    | none => rfl
    | some ob => exact absurd (Heap.lt_size q) (Nat.not_lt.mpr (by rw [hC]; exact Nat.le_succ _))
  have hnD : h.get? h.objs.size = none := none_size h
  -- the block's frame
  have gB' : Glob G (hideAll h [a]) := I.glob.hide _ fun b hb => by
    rw [List.mem_singleton.mp hb]
    refine ⟨?_, fa.1, fa.2, fun ob e => by rw [ea] at e; cases e; exact It.nc 0 _ pa⟩
    cases q : G.get? a with
    | none => rfl
    | some ob => rw [I.gB.keep _ _ q] at hBa; cases hBa
  have hide_none : ∀ b, h.get? b = none → (hideAll h [a]).get? b = none := fun b e => by
    cases q : (hideAll h [a]).get? b with
    | none => rfl
    | some ob => rw [of_hideAll _ q] at e; cases e
  have ha_ne : a ≠ h.objs.size ∧ a ≠ H2.objs.size := ⟨(fun e => by rw [e, hnD] at ea; cases ea), (fun e => by rw [e, hnC] at ea; cases ea)⟩
  generalize hcenv : compEnvC scope cl H2.objs.size env = cenv
  have hloc : cenv.locals = H2.objs.size := by rw [← hcenv]; rfl
  have S0 : Sta G (hideAll h [a]) cenv [x] [.unb] [(a, St 0), (h.objs.size, Lst ((List.range 0).map out))] h₁ := by
    refine ⟨I.glob.keeps old, gB', by rw [hloc]; exact hide_none _ hnC, .of fun b ob e => old b ob (of_hideAll _ e), ⟨_, by rw [hloc]; exact hns, fun i y dd q1 q2 q3 => ?_⟩, by simp, ?_, ?_, ?_, ?_⟩
    · match i with
      | 0 => cases q2; exact absurd rfl q3
      | j + 1 => cases q2
    · intro y hy
      rw [List.mem_singleton.mp hy, ← hcenv]
      exact lookup_relabel_local hx'
    · rw [← hcenv]; exact hkind
    · intro p hp
      rw [hloc]
      rcases List.mem_cons.mp hp with rfl | hp
      · exact ⟨hideAll_none _ (.head _), ha_ne.2, oa, old _ _ ea, pa⟩
      · rw [List.mem_singleton.mp hp]
        exact ⟨hide_none _ hnD, hDC, _, hD1, _, _, rfl, .nil⟩
    · simp only [List.map_cons, List.map_nil, List.nodup_cons, List.mem_singleton, List.not_mem_nil, not_false_eq_true, List.nodup_nil, and_true]
      exact ha_ne.1
  have hasB : ∀ b R, Has h b R → b ≠ a → Has (hideAll h [a]) b R := fun b R ⟨ob, e, p⟩ hb => ⟨ob, hideAll_get _ e (by simpa using hb), p⟩
  have loop : ∀ s₃ : Shared, s₃ = ⟨h₁, g, d, t + 1 + ([] : List (Str × Value)).length, o⟩ → codeAny (model prog w) A (.compLoop (.ListComp elt [⟨.Name x px, iter, [], 0⟩] scope pos) 0 (.ref a) (.ref h.objs.size) cenv) (compPost (model prog w) A NoE none Q (.ref h.objs.size) H2.objs.size) s₃ := by
    rintro s₃ rfl
    refine codeAny_compLoop_tests (fun m s => ∃ i h' t' v0, m = n - i ∧ i ≤ n ∧ s = ⟨h', g, d, t' + 1, o⟩ ∧ Sta G (hideAll h [a]) cenv [x] [v0] [(a, St i), (h.objs.size, Lst ((List.range i).map out))] h') ?_ n ⟨0, h₁, _, _, rfl, Nat.zero_le _, rfl, S0⟩
    rintro m s ⟨i, h', t', v0, rfl, hi, rfl, J⟩
    have hA : Aux h' := aux h' fun b R hb n1 n2 n3 => J.old (hasB b R hb n1) ⟨n2, n3⟩
    by_cases hlt : i < n
    · refine W.any (It.item i h' g d (t' + 1) o _ hlt hA (J.has (i := 0) rfl) fun h₂ t₂ v u hle hP hk hst => ?_)
      obtain ⟨t₂, rfl⟩ := pos_ex hle
      obtain ⟨ob, e, hob⟩ := hst
      have J₂ : Sta G (hideAll h [a]) cenv [x] [v0] [(a, St (i + 1)), (h.objs.size, Lst ((List.range i).map out))] h₂ := J.upd (i := 0) rfl (It.nc i) hk e hob
      refine wpAny_assign_Name (W.any (store (i := 0) J₂ rfl fun h₃ t₃ J₃ => ?_))
      rw [(It.proper i v hP).of u] at J₃
      have J₃' : Sta G (hideAll h [a]) cenv [x] [v] [(a, St (i + 1)), (h.objs.size, Lst ((List.range i).map out))] h₃ := J₃
      rw [List.forIn_nil]
      refine wpAny_pure ?_
      rw [if_pos rfl]
      have q := step i v H2.objs.size h₃ t₃ (hideAll h [a]) _ hlt hP hasB (by rw [hcenv]; exact J₃')
      rw [hcenv] at q
      refine wpAny_mono q.out (fun r s' q => ?_) fun _ _ q => q.elim
      obtain ⟨h₄, t₄, u₄, ex, rfl, rfl, J₄⟩ := q
      have J₅ : Sta G (hideAll h [a]) cenv [x] [v] [(a, St (i + 1)), (h.objs.size, Lst ((List.range i).map out))] h₄ := J₄.sub (List.sublist_append_right _ _)
      refine W.any (prog := prog) (w := w) (cAppend (l := h.objs.size) J₅ (i := 1) rfl (by simp [sizeLine]; lia) fun h₆ J₆ => ?_)
      refine ⟨n - (i + 1), by lia, i + 1, h₆, _, v, rfl, hlt, rfl, ?_⟩
      rw [List.range_succ, List.map_append]
      rw [(pr i hlt).of] at J₆
      exact J₆
    · have e : i = n := by lia
      subst e
      refine W.any (It.done h' g d (t' + 1) o _ hA (J.has (i := 0) rfl) fun h₂ t₂ hle hk => ?_)
      obtain ⟨t₂, rfl⟩ := pos_ex hle
      have J₂ : Sta G (hideAll h [a]) cenv [x] [v0] [(h.objs.size, Lst ((List.range i).map out))] h₂ := J.letGo (It.nc i) hk
      obtain ⟨mm, nn, _⟩ := J₂.loc
      rw [hloc] at nn
      refine ⟨mm, nn, fun h₃ hs₃ => ?_⟩
      refine done _ _ _ (I.tail.rebuild [a] ?_ ?_ ?_ ?_ ?_)
      · refine J₂.glob.up fun b ob e hb => (hs₃.2 b ?_).trans e
        have hlow := J₂.low
        rw [hloc] at hlow
        have f := J₂.gB.free hlow
        rcases hb with hb | hb | hb | hb
        · rintro rfl; rw [J₂.gB.keep _ _ hb] at hlow; cases hlow
        · rw [hb]; exact f.1.symm
        · rw [hb]; exact f.2.symm
        · rintro rfl
          obtain ⟨o', es, ep, ho', hd', _⟩ := nn
          rw [ho'] at e; cases e
          obtain ⟨ws, qq, tt, hd, _⟩ := hb
          rw [hd'] at hd; cases hd
      · intro b hb
        rw [List.mem_singleton.mp hb]
        exact ⟨hBa, hLa⟩
      · intro b ob hb n1 n2 e
        refine (hs₃.2 b ?_).trans (J₂.keep b ob (hideAll_get _ e hb) n1 n2)
        rintro rfl; rw [hnC] at e; cases e
      · intro p hp
        have tr : ∀ b ob, b ≠ a → b ≠ 51 → b ≠ 58 → h.get? b = some ob → h₃.get? b = some ob := fun b ob n0 n1 n2 e => (hs₃.2 b (by rintro rfl; rw [hnC] at e; cases e)).trans (J₂.keep b ob (hideAll_get _ e (by simpa using n0)) n1 n2)
        rcases List.mem_cons.mp hp with rfl | hp
        · refine ⟨I.free hnD, ?_, ?_⟩
          · obtain ⟨ol, el, _⟩ := I.live
            intro q
            have q' : h.objs.size = env.locals := q
            rw [← q', hnD] at el; cases el
          · obtain ⟨ob, e, p⟩ := J₂.has (i := 0) rfl
            exact ⟨ob, (hs₃.2 _ hDC).trans e, p⟩
        · obtain ⟨c1, c2, ob, c3, c4⟩ := I.leds p (.tail _ hp)
          have f := I.gB.free c1
          exact ⟨c1, c2, ob, tr _ _ (fun e => (List.nodup_cons.mp I.dist).1 (List.mem_map.mpr ⟨p, hp, e⟩)) f.1 f.2 c3, c4⟩
      · refine List.nodup_cons.mpr ⟨fun hm => ?_, (List.nodup_cons.mp I.dist).2⟩
        obtain ⟨p, hp, e⟩ := List.mem_map.mp hm
        obtain ⟨_, _, ob, c3, _⟩ := I.leds p (.tail _ hp)
        have e' : p.1 = h.objs.size := e
        rw [e', hnD] at c3; cases c3
  have fin := loop _ rfl
  subst hcenv
  exact codeAny_compStart_list fin (W.any (It.self 0 _ _ (S0.has (i := 0) rfl) fin))
end
end Mine
end PartMComp

section PartMCellF
open PySem PySem.W PyProof.Rows
set_option autoImplicit false
set_option linter.unusedVariables false
namespace Mine

noncomputable abbrev cenvC (w : World) (f L : Addr) : Env := callEnvC (fdOf w.params f) L f

/-- what is asked of a def with captured names -/
structure DefC (P : Params) (f : Addr) (ps lnames : List Str) : Prop where
  at_ : (KK P).lookup f = some (fnObj P f)
  body : (fdOf P f).body = .stmts (bodyOf P f)
  code : codeIn (KK P) (fdOf P f).code (fdOf P f).qualname = true
  co : (fdOf P f).scope.isCoroutine = false
  gen : (fdOf P f).scope.isGenerator = false
  clos : (fdOf P f).closure = []
  fn : (fdOf P f).scope.kind = .function
  kind : (ps.all fun x => (fdOf P f).scope.names.lookup x == some .local || ((fdOf P f).scope.names.lookup x == some .cell && ((cellsFrom 0 (fdOf P f).scope.names []).lookup x).isSome)) = true
  loc : (lnames.all fun x => (fdOf P f).scope.names.lookup x == some .local) = true
  nod : lnames.Nodup

theorem beq_cell {x : Option NameKind} (h : (x == some NameKind.cell) = true) : x = some .cell := by
  cases x with
  | none => cases h
  | some k => cases k <;> first | rfl | cases h

theorem cellsFrom_some {x : Str} : ∀ (l : List (Str × NameKind)) (n m : Nat) (acc acc' : List (Str × Addr)), acc.map (·.1) = acc'.map (·.1) → ((cellsFrom n l acc).lookup x).isSome = ((cellsFrom m l acc').lookup x).isSome
  | [], _, _, acc, acc', h => by
    have : ∀ (a b : List (Str × Addr)), a.map (·.1) = b.map (·.1) → (a.lookup x).isSome = (b.lookup x).isSome := by
      intro a
      induction a with
      | nil => intro b hb; cases b with | nil => rfl | cons _ _ => cases hb
      | cons p r ih =>
        intro b hb
        cases b with
        | nil => cases hb
        | cons q s =>
          simp only [List.map_cons, List.cons.injEq] at hb
          obtain ⟨p1, p2⟩ := p
          obtain ⟨q1, q2⟩ := q
          have e : p1 = q1 := hb.1
          subst e
          simp only [List.lookup_cons]
          cases x == p1 <;> simp [ih s hb.2]
    exact this acc acc' h
  | (a, k) :: r, n, m, acc, acc', h => by
    unfold cellsFrom
    cases hk : k == NameKind.cell
    · simp only [Bool.false_eq_true, if_false]; exact cellsFrom_some r n m acc acc' h
    · simp only [if_true]; exact cellsFrom_some r (n + 1) (m + 1) _ _ (by simp [h])

section
variable {prog : Program} {w : World} {A : Around} {G B h : Heap} {g : Array GenState} {d : Drawn} {t : Nat} {o : OsState} {env : Env} {names : List Str} {vals : List V} {led : Led} {mg mb : Str → Option Value}

theorem enterC {f : Addr} {ps lnames : List Str} {args : List Value} {lvals : List V} {led : Nat → Led} {Q : Value → Shared → Prop} (gg : GG w G mg mb) (hg : Glob G h) (D : DefC w.params f ps lnames) (hroom : A.depth < recursionLimit) (hlen : ps.length = args.length)
    (hbind : bindArgs (fdOf w.params f) ⟨args, []⟩ = pure (ps.zip args))
    (hl : ∀ L i x dd, nth lnames i = some x → nth lvals i = some dd → dd ≠ .unb → ∃ tk, bindL (cenvC w f L).kindOf (ps.zip args) (fun _ => none) x = some (dd.val tk))
    (hc : ∀ L p, p ∈ led L → ∃ x, (cellsFrom (L + 1) (fdOf w.params f).scope.names []).lookup x = some p.1 ∧ ∀ ob : Obj, ob.data = .cell (bindC (cenvC w f L).kindOf (ps.zip args) (fun _ => none) x) → p.2 ob)
    (hd : ∀ L, ((led L).map (·.1)).Nodup)
    (k : ∀ h1 t1, Sta G h (cenvC w f h.objs.size) lnames lvals (led h.objs.size) h1 →
      W prog w (A.deeper (cenvC w f h.objs.size)) (execs (bodyOf w.params f) (cenvC w f h.objs.size)) (fun fl s' => Q (retOf fl) s') ⟨h1, g, d, t1 + 1, o⟩) :
    W prog w A (call (.ref f) args) Q ⟨h, g, d, t + 1, o⟩ := by
  refine .of (wpAny_call ?_)
  have ho := hg.keep _ _ (gg.X f _ D.at_)
  refine codeAny_call_function (fd := fdOf w.params f) (body := bodyOf w.params f) hroom ho rfl D.co D.gen D.body ((codeRec_of gg.X D.code).keeps hg.keep) ?_
  refine wpAny_of_eq hbind ?_
  rw [D.clos]
  refine wpAny_with_toks (Nat.le_refl _) (wpAny_newFunctionEnv_cells D.fn (fun x hx => ?_) fun env he s' x hle => ?_)
  · have hm : x.1 ∈ ps := (zip_fst hlen) ▸ List.mem_map_of_mem hx
    have := List.all_eq_true.mp D.kind x.1 hm
    rcases Bool.or_eq_true_iff.mp this with q | q
    · exact .inl (beq_local q)
    · have q' := Bool.and_eq_true_iff.mp q
      exact .inr ⟨beq_cell q'.1, by rw [cellsFrom_some _ _ 0 [] [] rfl]; exact q'.2⟩
  · subst he
    obtain ⟨h₁, tk, rfl, kp⟩ := x.done
    obtain ⟨tk, rfl⟩ := pos_ex (show t + 1 ≤ tk from hle)
    have kp' : ∀ b ob, h.get? b = some ob → h₁.get? b = some ob := kp
    refine ⟨(gg.lim.keeps hg.keep).keeps kp', codeAny_func ?_⟩
    refine wpAny_mono (k h₁ tk ?_).out (fun fl s' q => ?_) fun _ _ q => q.elim
    · refine ⟨hg.keeps kp', hg, none_size h, .of kp', ⟨_, x.toInCall.ns, hl _⟩, D.nod, fun y hy => beq_local (List.all_eq_true.mp D.loc y hy), D.fn, fun p hp => ?_, hd _⟩
      obtain ⟨y, e, q⟩ := hc _ p hp
      obtain ⟨ob, eo, ed⟩ := x.cell y p.1 e
      have hab : h.objs.size < p.1 := x.above y p.1 (by
        have : ∀ (l : List (Str × Addr)) (y : Str) (c : Addr), l.lookup y = some c → (y, c) ∈ l := by
          intro l
          induction l with
          | nil => intro y c q; cases q
          | cons p r ih =>
            intro y c q
            obtain ⟨p1, p2⟩ := p
            rw [List.lookup_cons] at q
            cases hb : y == p1 with
            | true => rw [hb] at q; cases q; rw [eq_of_beq hb]; exact .head _
            | false => rw [hb] at q; exact .tail _ (ih y c q)
        exact this _ _ _ e)
      refine ⟨?_, Nat.ne_of_gt hab, ob, eo, q ob ed⟩
      cases qq : h.get? p.1 with
      | none => rfl
      | some o' => exact absurd (Heap.lt_size qq) (Nat.not_lt.mpr (Nat.le_of_lt hab))
    · cases fl <;> exact q

/-- captured names -/
theorem lC {x : Str} {pos : Pos} {c : Addr} {v : V} {Q : Value → Shared → Prop} (hc : Has h c (Cel v)) (k : ∀ u, Q (v.val u) ⟨h, g, d, t, o⟩) (hl : env.cells.lookup x = some c := by kernel_rfl)
    (hk : env.scope.kind = .function := by kernel_rfl) (hx : env.kindOf x = some .cell := by kernel_rfl) (hd : (x == ("__debug__" : Str)) = false := by kernel_rfl) : W prog w A (eval (.Name x pos) env) Q ⟨h, g, d, t, o⟩ := by
  obtain ⟨ob, e, u, q⟩ := hc
  exact .of (wpAny_Name (wpAny_loadName_cell hk hx hl ⟨ob, e, q⟩ (k u)) hd)
theorem lFr {x : Str} {pos : Pos} {c : Addr} {v : V} {Q : Value → Shared → Prop} (hc : Has h c (Cel v)) (k : ∀ u, Q (v.val u) ⟨h, g, d, t, o⟩) (hl : env.cells.lookup x = some c := by kernel_rfl)
    (hk : env.scope.kind = .function := by kernel_rfl) (hx : env.kindOf x = some .free := by kernel_rfl) (hd : (x == ("__debug__" : Str)) = false := by kernel_rfl) (hn : (x == ("__classdict__" : Str)) = false := by kernel_rfl) : W prog w A (eval (.Name x pos) env) Q ⟨h, g, d, t, o⟩ := by
  obtain ⟨ob, e, u, q⟩ := hc
  exact .of (wpAny_Name (wpAny_loadName_free hk hx hl ⟨ob, e, q⟩ (k u) hn) hd)
theorem sC {x : Str} {c : Addr} {v : Value} {i : Nat} {P : Obj → Prop} {Q : Unit → Shared → Prop} (I : Sta G B env names vals led h) (hi : nth led i = some (c, P)) (hP : ∀ ob, P ob → Cel0 ob)
    (k : ∀ h', Sta G B env names vals (setAt led i (c, Cel (V.of v))) h' → Q () ⟨h', g, d, t, o⟩) (hl : env.cells.lookup x = some c := by kernel_rfl)
    (hk : env.scope.kind = .function := by kernel_rfl) (hx : env.kindOf x = some .cell := by kernel_rfl) : W prog w A (storeName env x v) Q ⟨h, g, d, t, o⟩ := by
  obtain ⟨ob, e, p⟩ := I.has hi
  obtain ⟨v0, q⟩ := hP ob p
  refine .of (wpAny_storeName_cell hk hx hl ⟨ob, e, q⟩ fun h' hv hs => ?_)
  obtain ⟨ob', e', q'⟩ := hv
  refine k h' (I.upd hi (fun o p => Cel0.nc o (hP o p)) (fun b o hb e => (hs.2 b hb).trans e) e' ?_)
  obtain ⟨u, eu⟩ := V.of_val v
  exact ⟨u, by rw [q', ← eu]⟩
theorem Cel.c0 {v : V} (ob : Obj) (x : Cel v ob) : Cel0 ob := let ⟨u, e⟩ := x; ⟨_, e⟩
end
end Mine
end PartMCellF

section PartMEq
open PySem PySem.W PyProof.Rows
set_option autoImplicit false
set_option linter.unusedVariables false
namespace Mine
section
variable {prog : Program} {w : World} {A : Around} {s : Shared} {env : Env} {R : Value → Shared → Prop}
theorem xIfExp {test body orelse : Expr} {pos : Pos} (h : W prog w A (isTrue test env (eval test env)) (fun b s₂ => if b = true then W prog w A (eval body env) R s₂ else W prog w A (eval orelse env) R s₂) s) : W prog w A (eval (.IfExp test body orelse pos) env) R s :=
  .of (wpAny_IfExp (wpAny_mono h.out (fun b s' q => by cases b <;> simp at q ⊢ <;> exact q.out) fun _ _ q => q))
theorem xUnary {op : UnaryOp} {x : Expr} {pos : Pos} (h : W prog w A (eval x env) (fun v s₁ => W prog w A (unaryOp op v) R s₁) s) : W prog w A (eval (.UnaryOp op x pos) env) R s :=
  .of (wpAny_UnaryOp (wpAny_mono h.out (fun _ _ q => q.out) fun _ _ q => q))
end
section
variable {prog : Program} {w : World} {A : Around} {G B h : Heap} {g : Array GenState} {d : Drawn} {t : Nat} {o : OsState} {env : Env} {names : List Str} {vals : List V} {led : Led} {Q : Value → Shared → Prop} {u ta tb : Tok}
theorem lEq {a b : Addr} {ns ms : List Int} (ha : Has h a (LstR (ns.map .int))) (hb : Has h b (LstR (ms.map .int))) (hu : A.units + 64 < cLine) (c : Q (.bool (decide (ns = ms))) ⟨h, g, d, t, o⟩) : W prog w A (compareOp .Eq (.ref a) (.ref b)) Q ⟨h, g, d, t, o⟩ := by
  obtain ⟨vs, hl, hv⟩ := ha.isListR
  obtain ⟨ws, hl', hw⟩ := hb.isListR
  exact .of (eq_intsK (s := ⟨h, g, d, t, o⟩) hl hv.ints hl' hw.ints hu c)
theorem lNe {a b : Addr} {ns ms : List Int} (ha : Has h a (LstR (ns.map .int))) (hb : Has h b (LstR (ms.map .int))) (hu : A.units + 64 < cLine) (c : Q (.bool (!decide (ns = ms))) ⟨h, g, d, t, o⟩) : W prog w A (compareOp .NotEq (.ref a) (.ref b)) Q ⟨h, g, d, t, o⟩ := by
  obtain ⟨vs, hl, hv⟩ := ha.isListR
  obtain ⟨ws, hl', hw⟩ := hb.isListR
  exact .of (ne_intsK (s := ⟨h, g, d, t, o⟩) hl hv.ints hl' hw.ints hu c)
theorem slice_to {α : Type} (ds : List α) {y : Int} (h : 0 ≤ y) : (ds.drop ((none : Option Int).elim 0 (clipAt ds.length))).take ((some y).elim ds.length (clipAt ds.length) - (none : Option Int).elim 0 (clipAt ds.length)) = ds.take y.toNat := by
  simp only [Option.elim, List.drop_zero, Nat.sub_zero]
  unfold clipAt
  rw [if_neg (by lia)]
  by_cases q : y.toNat ≤ ds.length
  · rw [show (max 0 (min y (ds.length : Int))).toNat = y.toNat by lia]
  · rw [show (max 0 (min y (ds.length : Int))).toNat = ds.length by lia, List.take_length, List.take_of_length_le (by lia)]
/-- xs[:y] -/
theorem tSliceTo {value slice : Expr} {l : Addr} {ds : List V} {y : Int} {ty : Tok} (I : Sta G B env names vals led h) (hl : Has h l (LstR ds)) (hy : 0 ≤ y) (hsz : ds.length ≤ 1000000)
    (c : ∀ r h', Sta G B env names vals ((r, Lst (ds.take y.toNat)) :: led) h' → Q (.ref r) ⟨h', g, d, t, o⟩)
    (hs : subscripted slice false (.ref l) (.ref h.objs.size) = operate [.ref h.objs.size, .ref l] (getItem (.ref l) (.ref h.objs.size)) := by with_unfolding_all rfl) :
    W prog w A (subscriptTail value slice (.ref l) (.ref h.objs.size)) Q ⟨h.push { cls := .type "slice", data := .fields #[.none, .int y ty, .none] }, g, d, t, o⟩ :=
  tSlice I hl .none (.int y ty) (Nat.le_trans hsz (by decide)) (fun r h' J => c r h' (by rw [slice_to ds hy] at J; exact J)) hs
/-- xs[-k] -/
theorem tNeg {value slice : Expr} {l : Addr} {ds : List V} {k : Int} {v : V} (hl : Has h l (LstR ds)) (h0 : k < 0) (h1 : -(ds.length : Int) ≤ k) (hf : -(2 ^ 63) ≤ k) (hv : ds[(k + ds.length).toNat]? = some v) (c : ∀ u', Q (v.val u') ⟨h, g, d, t, o⟩)
    (hs : subscripted slice false (.ref l) (.int k u) = operate [.ref l, .int k u] (getItem (.ref l) (.int k u)) := by with_unfolding_all rfl) : W prog w A (subscriptTail value slice (.ref l) (.int k u)) Q ⟨h, g, d, t, o⟩ := by
  obtain ⟨vs, hl', hv'⟩ := hl.isListR
  obtain ⟨u', e⟩ := hv'.get hv
  have hsz : vs.toArray.size = ds.length := by simp [hv'.length]
  exact .of (tail_any (s := ⟨h, g, d, t, o⟩) hl'.typeIs slot_list_getitem.lookup (wpAny_getItem_list_neg hl' h0 (by rw [hsz]; exact h1) hf (by rw [hsz]; simpa using e) (c u')) hs)
theorem cSum {l : Addr} {ns : List Int} (hh : A.handled = none) (hl : Has h l (LstR (ns.map .int))) (c : ∀ h' u t', (∀ b o, h.get? b = some o → h'.get? b = some o) → Q (.int ns.sum u) ⟨h', g, d, t' + 1, o⟩) : W prog w A (call (.builtin "sum") [.ref l]) Q ⟨h, g, d, t + 1, o⟩ := by
  obtain ⟨vs, hl', hv⟩ := hl.isListR
  have hi := hv.ints
  obtain ⟨ol, hol, _⟩ := id hl'
  have hlt : l < h.objs.size := Heap.lt_size hol
  refine W.tk (.of (call_sum_walkG (wpAny_pyIter_list hl' ?_)))
  refine ⟨h.objs.size, _, _, _, _, _, fun i => ns.getD i 0, rfl, Walks.list (A := A.in1) hh h.objs.size l (Nat.ne_of_lt hlt) vs.toArray, ⟨⟨_, Heap.get?_push_size _ rfl, rfl, rfl⟩, hl'.at fun o e => Heap.get?_push_of_some _ e⟩, ?_, ?_, ?_⟩
  · intro b hb
    show b < (h.push _).objs.size
    rw [Heap.size_push]
    rcases List.mem_cons.mp hb with rfl | hb
    · exact Nat.lt_succ_self _
    · rw [List.mem_singleton.mp hb]; exact Nat.lt_succ_of_lt hlt
  · intro i v hP
    have hP' : vs[i]? = some v := by simpa using hP
    have hlt' : i < ns.length := by
      have := (List.getElem?_eq_some_iff.mp hP').1
      rw [hi.length] at this; exact this
    obtain ⟨tt, e⟩ := hi.get i ns[i] (by simp [hlt'])
    rw [e] at hP'
    exact ⟨tt, by rw [← Option.some.inj hP']; simp [List.getD, hlt']⟩
  · intro h' tk t' k hle
    obtain ⟨tk, rfl⟩ := pos_ex hle
    have e : preSum (fun i => ns.getD i 0) vs.toArray.size = ns.sum := by
      rw [preSum_getD]; simp [hi.length]
    rw [e]
    refine c h' t' tk fun b ob eb => k b ob (fun hm => ?_) (Heap.get?_push_of_some _ eb)
    rw [List.mem_singleton.mp hm] at eb
    exact absurd (Heap.lt_size eb) (Nat.lt_irrefl _)
/-- range(n), walked -/
theorem cRange {n : Int} (I : Sta G B env names vals led h) (h0 : 0 ≤ n) (h1 : n < 2 ^ 62) {R : Value → Shared → Prop}
    (c : ∀ a h' t', Sta G B env names vals ((a, ItR 0 n.toNat 0) :: led) h' → R (.ref a) ⟨h', g, d, t' + 1, o⟩) : W prog w A (call (.type "range") [.int n u]) (fun xv s₁ => W prog w A (pyIter xv) R s₁) ⟨h, g, d, t + 1, o⟩ := by
  refine .of (call_range_1 (W.of (wpAny_pyIter_range (IsRange.new _ _ _ _ _ _ _) (small_one (by decide) (by decide) (by lia) (by lia)) ?_)))
  rw [rangeSize_nat]
  have I1 : Sta G B env names vals led (h.push { cls := .type "range", data := .fields #[.int 0 (t + 1), .int n u, .int 1 (t + 1 + 1)] }) := I.ext fun _ _ e => Heap.get?_push_of_some _ e
  refine c _ _ _ (I1.pushK (fun _ _ e => Heap.get?_push_of_some _ e) (none_size _) (Heap.get?_push_size _ rfl) ?_)
  unfold ItR
  simp
/-- range(a, b) -/
theorem cRange2 {a b : Int} {ta : Tok} (I : Sta G B env names vals led h) (h0 : -(2 ^ 62) ≤ a) (h1 : a < 2 ^ 62) (h2 : -(2 ^ 62) ≤ b) (h3 : b < 2 ^ 62) {R : Value → Shared → Prop}
    (c : ∀ x h' t', Sta G B env names vals ((x, ItR a (b - a).toNat 0) :: led) h' → R (.ref x) ⟨h', g, d, t' + 1, o⟩) : W prog w A (call (.type "range") [.int a ta, .int b u]) (fun xv s₁ => W prog w A (pyIter xv) R s₁) ⟨h, g, d, t + 1, o⟩ := by
  refine .of (call_range_2 (W.of (wpAny_pyIter_range (IsRange.new _ _ _ _ _ _ _) (small_one h0 h1 h2 h3) ?_)))
  rw [rangeSize_nat]
  have I1 : Sta G B env names vals led (h.push { cls := .type "range", data := .fields #[.int a ta, .int b u, .int 1 (t + 1)] }) := I.ext fun _ _ e => Heap.get?_push_of_some _ e
  refine c _ _ _ (I1.pushK (fun _ _ e => Heap.get?_push_of_some _ e) (none_size _) (Heap.get?_push_size _ rfl) ?_)
  unfold ItR
  simp
end
end Mine
end PartMEq

section PartMDue
open PySem PySem.W PyProof.Rows
set_option autoImplicit false
set_option linter.unusedVariables false
namespace Mine

def lastOf (st tail : List Int) : Int := if tail.head? = some 0 then st.getD (st.length - 1) 0 else 1
def sizesOf (size : Int) (st tail : List Int) : List Int := (st ++ List.replicate size.toNat (lastOf st tail)).take (size - 1).toNat
def dueF (size first : Int) (st tail : List Int) : List Int := (List.range size.toNat).map fun k => first + min size (((sizesOf size st tail).take k).sum - k)

theorem d110 (P : Params) : DefC P 110 [Str.ofString "size", Str.ofString "first", Str.ofString "steps", Str.ofString "tail"] [Str.ofString "steps", Str.ofString "tail", Str.ofString "last"] where
  at_ := by kernel_rfl
  body := by kernel_rfl
  code := by kernel_rfl
  co := by kernel_rfl
  gen := by kernel_rfl
  clos := by kernel_rfl
  fn := by kernel_rfl
  kind := by kernel_rfl
  loc := by kernel_rfl
  nod := by decide +kernel

section
variable {prog : Program} {w : World} {A : Around} {G h : Heap} {g : Array GenState} {d : Drawn} {t : Nat} {o : OsState} {mg mb : Str → Option Value}
theorem law_due_ok {size first : Int} {t1 t2 : Tok} {sa ta : Addr} {st tail : List Int} {Q : Value → Shared → Prop} (gg : GG w G mg mb) (hg : Glob G h) (hroom : A.depth < recursionLimit) (hh : A.handled = none) (hu : A.units + 200 < cLine)
    (ok : 0 < st.length) (ok2 : st.length ≤ 1000) (ok3 : tail.length ≤ 1000) (hst : Has h sa (LstR (st.map .int))) (htl : Has h ta (LstR (tail.map .int))) (ns : sa ≠ 51 ∧ sa ≠ 58) (nt : ta ≠ 51 ∧ ta ≠ 58) (h1 : 1 ≤ size) (h2 : size ≤ 1000)
    (k' : ∀ h' t' r, Kept h h' → Glob G h' → h.get? r = none → Has h' r (Lst ((dueF size first st tail).map .int)) → Q (.ref r) ⟨h', g, d, t' + 1, o⟩) :
    W prog w A (call (.ref 110) [.int size t1, .int first t2, .ref sa, .ref ta]) Q ⟨h, g, d, t + 1, o⟩ := by
  refine enterC (lvals := [.ref sa, .ref ta, .unb]) (led := fun L => [(L + 1, Cel (.int size)), (L + 1 + 1, Cel (.int first)), (L + 1 + 1 + 1, Cel0)]) gg hg (d110 _) hroom rfl (by kernel_rfl) ?_ ?_ ?_ fun h0 t0 I => ?_
  · intro L i x dd q1 q2 q3
    match i with
    | 0 => cases q1; cases q2; exact ⟨0, by kernel_rfl⟩
    | 1 => cases q1; cases q2; exact ⟨0, by kernel_rfl⟩
    | 2 => cases q2; exact absurd rfl q3
    | j + 3 => cases q2
  · intro L p hp
    simp only [List.mem_cons, List.not_mem_nil, or_false] at hp
    rcases hp with rfl | rfl | rfl
    · exact ⟨Str.ofString "size", by kernel_rfl, fun ob e => ⟨t1, e⟩⟩
    · exact ⟨Str.ofString "first", by kernel_rfl, fun ob e => ⟨t2, e⟩⟩
    · exact ⟨Str.ofString "sizes", by kernel_rfl, fun ob e => ⟨_, e⟩⟩
  · intro L
    simp
  generalize hL : h.objs.size = L at I ⊢
  -- last
  refine xCons ?_
  refine xAssign ?_
  refine xIfExp ?_
  refine xTest ?_
  refine xSub ?_
  refine lR I (i := 1) rfl rfl ?_
  refine xSlice ?_
  refine xPart0 ?_
  refine xPart ?_
  refine cInt fun _ _ => ?_
  refine tSliceTo I (I.old htl nt) (by decide) (by simp; lia) fun sl h3 I3 => ?_
  simp only [← List.map_take] at I3
  refine xList ?_
  refine xArg ?_
  refine cInt fun _ _ => ?_
  refine xArgs ?_
  refine mkList I3 rfl fun r4 h4 I4 => ?_
  refine lEq (ns := tail.take 1) (ms := [0]) (I4.has (i := 1) rfl).r (I4.has (i := 0) rfl).r (by show A.units + 3 + 64 < cLine; lia) ?_
  refine tBool ?_
  have I4 := I4.pick [2, 3, 4] (by decide) rfl
  have hq : decide (tail.take 1 = [0]) = true ↔ tail.head? = some 0 := by
    cases tail with
    | nil => simp
    | cons a r => simp
  -- both ways
  have fin : ∀ h5 t5, Sta G h (cenvC w 110 L) [Str.ofString "steps", Str.ofString "tail", Str.ofString "last"] [.ref sa, .ref ta, .int (lastOf st tail)] [(L + 1, Cel (.int size)), (L + 1 + 1, Cel (.int first)), (L + 1 + 1 + 1, Cel0)] h5 →
      W prog w (A.deeper (cenvC w 110 L)) (execs ((bodyOf w.params 110).drop 1) (cenvC w 110 L)) (fun fl s' => Q (retOf fl) s') ⟨h5, g, d, t5 + 1, o⟩ := by
    intro h5 t5 I5
    refine xCons ?_
    refine xAssign ?_
    refine xSub ?_
    refine xBin ?_
    refine lR I5 (i := 0) rfl rfl ?_
    refine xBin ?_
    refine xList ?_
    refine xArg ?_
    refine lI I5 (i := 2) rfl rfl fun _ => ?_
    refine xArgs ?_
    refine mkList I5 rfl fun r6 h6 I6 => ?_
    refine lC (I6.has (i := 1) rfl) fun _ => ?_
    refine lMul I6 (I6.has (i := 0) rfl) (by lia) (by lia) fun r7 h7 I7 => ?_
    refine lAdd I7 (I7.old hst ns) (I7.has (i := 0) rfl).r (by simp [sizeLine]; lia) fun r8 h8 I8 => ?_
    refine xSlice ?_
    refine xPart0 ?_
    refine xPart ?_
    refine xBin ?_
    refine lC (I8.has (i := 3) rfl) fun _ => ?_
    refine cInt fun _ _ => ?_
    refine iSub fun _ _ => ?_
    refine tSliceTo I8 (I8.has (i := 0) rfl).r (by lia) (by simp; lia) fun r9 h9 I9 => ?_
    have I9 := I9.pick [0, 4, 5, 6] (by decide) rfl
    have I9 : Sta G h (cenvC w 110 L) [Str.ofString "steps", Str.ofString "tail", Str.ofString "last"] [.ref sa, .ref ta, .int (lastOf st tail)] [(r9, Lst ((sizesOf size st tail).map .int)), (L + 1, Cel (.int size)), (L + 1 + 1, Cel (.int first)), (L + 1 + 1 + 1, Cel0)] h9 := by
      unfold sizesOf
      rw [List.map_take, List.map_append, List.map_replicate]
      exact I9
    refine sC I9 (i := 3) rfl (fun _ p => p) fun h10 I10 => ?_
    simp only [setAt] at I10
    refine xCons ?_
    refine xReturn ?_
    refine xComp (cl := [(Str.ofString "sizes", L + 1 + 1 + 1), (Str.ofString "size", L + 1), (Str.ofString "first", L + 1 + 1)]) ?_
    refine xCall ?_
    refine bload gg I10.glob (b_range _) ?_
    refine xType ?_
    refine xArg ?_
    refine lC (I10.has (i := 1) rfl) fun _ => ?_
    refine xArgs ?_
    refine cRange I10 (by lia) (by lia) fun a h11 t11 I11 => ?_
    have nd := I11.dist
    simp only [List.map_cons, List.map_nil, List.nodup_cons, List.mem_cons, List.not_mem_nil, or_false, not_or] at nd
    refine compIt (n := size.toNat) (iterR (A := A.deeper (cenvC w 110 L)) hh a 0 size.toNat) I11 (by lia) (fun k => V.int (first + min size (((sizesOf size st tail).take k).sum - k))) (fun _ _ => trivial) ?_ (fun _ _ => trivial) fun D h12 t12 I12 => ?_
    · rintro i v C h' t' B' ex hi rfl hB J
      have c1 : Has B' (L + 1) (Cel (.int size)) := hB _ _ (I11.has (i := 2) rfl) (Ne.symm nd.1.2.1)
      have c2 : Has B' (L + 1 + 1) (Cel (.int first)) := hB _ _ (I11.has (i := 3) rfl) (Ne.symm nd.1.2.2.1)
      have c3 : Has B' (L + 1 + 1 + 1) (Cel (.ref r9)) := hB _ _ (I11.has (i := 4) rfl) (Ne.symm nd.1.2.2.2)
      have c4 : Has B' r9 (Lst ((sizesOf size st tail).map .int)) := hB _ _ (I11.has (i := 1) rfl) (Ne.symm nd.1.1)
      have f1 := I11.n5 (i := 2) rfl
      have f2 := I11.n5 (i := 3) rfl
      have f3 := I11.n5 (i := 4) rfl
      have f4 := I11.n5 (i := 1) rfl
      refine xBin ?_
      refine lC (J.old c2 f2) fun _ => ?_
      refine xCall ?_
      refine bload gg J.glob (b_min _) ?_
      refine xBuiltin ?_
      refine xArg ?_
      refine lC (J.old c1 f1) fun _ => ?_
      refine xArg ?_
      refine xBin ?_
      refine xCall ?_
      refine bload gg J.glob (b_sum _) ?_
      refine xBuiltin ?_
      refine xArg ?_
      refine xSub ?_
      refine lC (J.old c3 f3) fun _ => ?_
      refine xSlice ?_
      refine xPart0 ?_
      refine xPart ?_
      refine lI J (i := 0) rfl rfl fun _ => ?_
      refine tSliceTo J (J.old c4 f4).r (by lia) (by unfold sizesOf; simp; lia) fun r13 h13 J13 => ?_
      simp only [← List.map_take] at J13
      refine xArgs ?_
      refine cSum hh (J13.has (i := 0) rfl).r fun h14 _ _ K14 => ?_
      have J14 := J13.ext K14
      refine lI J14 (i := 0) rfl rfl fun _ => ?_
      refine iSub fun _ _ => ?_
      refine xArgs ?_
      refine iMin hh fun h15 _ _ K15 => ?_
      have J15 := J14.ext K15
      refine iAdd fun u16 t16 => ?_
      refine ⟨h15, t16, u16, [_], rfl, ?_, J15⟩
      simp
    · refine k' _ _ _ I12.keep I12.glob (I12.fresh (i := 0) rfl) ?_
      have e : (dueF size first st tail).map V.int = (List.range size.toNat).map (fun k => V.int (first + min size (((sizesOf size st tail).take k).sum - k))) := by
        unfold dueF; rw [List.map_map]; rfl
      rw [e]
      exact I12.has (i := 0) rfl
  by_cases q : decide (tail.take 1 = [0]) = true
  · refine br_t q ?_
    refine xSub ?_
    refine lR I4 (i := 0) rfl rfl ?_
    refine xUnary ?_
    refine cInt fun _ _ => ?_
    refine iNeg fun _ _ => ?_
    refine tNeg (v := V.int (st.getD (st.length - 1) 0)) (I4.old hst ns) (by decide) (by simp; lia) (by decide) ?_ fun _ => ?_
    · rw [List.length_map, List.getElem?_map, show ((-1 : Int) + st.length).toNat = st.length - 1 by lia]
      rw [List.getElem?_eq_getElem (by lia)]
      simp [List.getD, List.getElem?_eq_getElem (show st.length - 1 < st.length by lia)]
    · refine sI I4 (i := 2) rfl fun h5 t5 I5 => ?_
      simp only [setAt] at I5
      rw [show st.getD (st.length - 1) 0 = lastOf st tail by unfold lastOf; rw [if_pos (hq.mp q)]] at I5
      exact fin h5 t5 I5
  · refine br_n q ?_
    refine cInt fun _ _ => ?_
    refine sI I4 (i := 2) rfl fun h5 t5 I5 => ?_
    simp only [setAt] at I5
    rw [show (1 : Int) = lastOf st tail by unfold lastOf; rw [if_neg (fun e => q (hq.mpr e))]] at I5
    exact fin h5 t5 I5
end
end Mine
end PartMDue

section PartMColl
open PySem PySem.W PyProof.Rows
set_option autoImplicit false
set_option linter.unusedVariables false
namespace Mine
theorem d84 (P : Params) : DefOk P 84 [Str.ofString "a", Str.ofString "b"] [] where
  at_ := by kernel_rfl
  body := by kernel_rfl
  code := by kernel_rfl
  co := by kernel_rfl
  gen := by kernel_rfl
  fn := by kernel_rfl
  cell := by kernel_rfl
  loc := by kernel_rfl
  nod := by decide +kernel
section
variable {prog : Program} {w : World} {A : Around} {G h : Heap} {g : Array GenState} {d : Drawn} {t : Nat} {o : OsState} {mg mb : Str → Option Value}
/-- _strcoll -/
theorem strcoll_ok {a b : Str} {ta tb : Tok} {Q : Value → Shared → Prop} (gg : GG w G mg mb) (hg : Glob G h) (hroom : A.depth < recursionLimit)
    (k : ∀ h' t' u, Kept h h' → Glob G h' → Q (.int (b2i (decide (b.cps.toList < a.cps.toList)) - b2i (decide (a.cps.toList < b.cps.toList))) u) ⟨h', g, d, t' + 1, o⟩) :
    W prog w A (call (.ref 84) [.str a ta, .str b tb]) Q ⟨h, g, d, t + 1, o⟩ := by
  refine enterN (names := [Str.ofString "a", Str.ofString "b"]) (vals := [.str a, .str b]) gg hg (d84 _) hroom rfl (by kernel_rfl) rfl rfl fun h0 t0 I => ?_
  refine xCons ?_
  refine xReturn ?_
  refine xBin ?_
  refine xCmp ?_
  refine lS I (i := 0) rfl rfl fun _ => ?_
  refine lS I (i := 1) rfl rfl fun _ => ?_
  refine .of (P.gt_str ?_)
  refine xCmp ?_
  refine lS I (i := 0) rfl rfl fun _ => ?_
  refine lS I (i := 1) rfl rfl fun _ => ?_
  refine .of (PyProof.Rows.lt_str ?_)
  refine .of (sub_bool ?_)
  exact k _ _ _ I.keep I.glob
end
end Mine
end PartMColl

section PartMNest
open PySem PySem.W PyProof.Rows
set_option autoImplicit false
set_option linter.unusedVariables false
namespace Mine

theorem tab_nc {ps : Array Value} (h : TriplesOk ps.toList) : ¬ Codeish (tabObj ps) := by
  rintro ⟨vs, q, t, hd, hv⟩
  cases hd
  rw [← Array.getElem?_toList] at hv
  revert h hv
  generalize ps.toList = l
  intro h hv
  match l, h, hv with
  | .int _ _ :: .int _ _ :: _ :: rest, h, hv => simp at hv

theorem CodeRec.codeish {h : Heap} {c : Addr} {q : Str} (x : h.CodeRec (.ref c) q) : ∃ ob, h.get? c = some ob ∧ Codeish ob := by
  obtain ⟨c', o, vs, t, e, ho, hd, hv⟩ := x
  cases e
  exact ⟨o, ho, vs, q, t, hd, hv⟩

/-- a code record is none of the tables -/
theorem Glob.nTab {G h : Heap} (x : Glob G h) {c : Addr} {q : Str} (y : h.CodeRec (.ref c) q) : c ≠ 51 ∧ c ≠ 58 := by
  obtain ⟨ob, e, hc⟩ := CodeRec.codeish y
  constructor
  · rintro rfl
    obtain ⟨ps, e', ht, _⟩ := x.t51
    rw [e] at e'; cases e'
    exact tab_nc ht hc
  · rintro rfl
    obtain ⟨ps, e', ht, _⟩ := x.t58
    rw [e] at e'; cases e'
    exact tab_nc ht hc

/-- which of the two nested defs -/
inductive Nst : Addr → Addr → Pos → Str → Prop
  | n51 : Nst 55 51 pos51 q51
  | n58 : Nst 62 58 pos58 q58

section
variable {prog : Program} {w : World} {A : Around} {G B h : Heap} {g : Array GenState} {d : Drawn} {t : Nat} {o : OsState} {env : Env} {names : List Str} {vals : List V} {led : Led} {mg mb : Str → Option Value}

theorem xNest {name : Str} {params : Arguments} {body : List Stmt} {scope : Scope} {pos : Pos} {s : Shared} {Q : Flow → Shared → Prop}
    (h : W prog w A (makeFunction name (qualnameIn env name name) params (.stmts body) scope env [] [] [] pos pos.line) (fun v s' => W prog w A (storeName env name v) (fun _ => Q .next) s') s)
    (hd0 : params.defaults = [] := by kernel_rfl) (hk0 : params.kw_defaults = [] := by kernel_rfl) (ha : annTrees params none env = [] := by kernel_rfl) :
    W prog w A (exec (.FunctionDef name params body [] none [] scope none name pos) env) Q s :=
  .of (nestDef_K hd0 hk0 ha (wpAny_mono h.out (fun _ _ q => q.out) fun _ _ q => q))

theorem GG.bAt (gg : GG w G mg mb) (hg : Glob G h) {P : Addr} (hP : G.get? P = none) : h.BuiltinsAt mg P := by
  obtain ⟨bm, ob, e1, e2, e3, e4, e5, e6⟩ := gg.bm
  refine ⟨bm, ob, e1, e2, ?_, ?_, hg.keep _ _ e3, e4, e5, e6⟩
  · rintro rfl
    obtain ⟨o, es, ep, e, hd, _⟩ := gg.g
    rw [e3] at e; cases e; rw [e6] at hd; cases hd
  · rintro rfl
    rw [hP] at e3; cases e3

theorem mkFn {c P : Addr} {pos : Pos} {q name : Str} {params : Arguments} {body : List Stmt} {scope : Scope} {clos : List (Str × Addr)} {fl : Nat} {R : Value → Shared → Prop} (gg : GG w G mg mb) (hg : Glob G h) (N : Nst c P pos q)
    (hcl : closureFor scope env = pure clos) (hge0 : env.globals = mainGlobals) (hcode : env.code = .ref c)
    (k : ∀ f c' ctv doc pm h' t', Kept h h' → Glob G h' → h.get? f = none → h'.get? f = some (fnMade name q params body scope clos doc pm c' ctv) → h'.CodeRec (.ref c') q → R (.ref f) ⟨h', g, d, t' + 1, o⟩) :
    W prog w A (makeFunction name q params (.stmts body) scope env [] [] [] pos fl) R ⟨h, g, d, t + 1, o⟩ := by
  have hn : G.get? P = none ∧ CodeHd G c P ∧ TabSt pos q P h := by
    cases N with
    | n51 => exact ⟨gg.n51, gg.c51, hg.t51⟩
    | n58 => exact ⟨gg.n58, gg.c58, hg.t58⟩
  obtain ⟨hnP, hC, ps, e, ht, hc⟩ := hn
  have hgs := gg.g.keeps hg.keep
  have hgP : mainGlobals ≠ P := fun q => by
    obtain ⟨o, es, ep, e', hd, _⟩ := gg.g
    rw [q, hnP] at e'; cases e'
  refine W.tk (.of ?_)
  rcases hc with hc | ⟨c', hc, hrec⟩
  · refine makeFunction_K (s := ⟨h, g, d, t + 1, o⟩) (mg := mg) hcl hge0 hgs hcode (hC.keeps hg.keep) e ht hc hgP (gg.bAt hg hnP) fun c' ctv doc h' tk hx hge hlt hrec htb hle => ?_
    obtain ⟨tk, rfl⟩ := pos_ex hle
    have up : ∀ b o, b ≠ P → h.get? b = some o → (h'.push (fnMade name q params body scope clos doc ((mg "__name__").getD .none) c' ctv)).get? b = some o := fun b o hb e => Heap.get?_push_of_some _ (hx b o hb e)
    have new : TabSt pos q P (h'.push (fnMade name q params body scope clos doc ((mg "__name__").getD .none) c' ctv)) := by
      refine ⟨_, Heap.get?_push_of_some _ htb, ?_, .inr ⟨c', ?_, hrec.push _⟩⟩
      · rw [Array.toList_append]; exact TriplesOk_snoc _ _ _ _ ht
      · rw [Array.toList_append]; exact codeAmong_snoc _ ht hc
    have oth : ∀ {pos' q' P'}, P' ≠ P → TabSt pos' q' P' h → TabSt pos' q' P' (h'.push (fnMade name q params body scope clos doc ((mg "__name__").getD .none) c' ctv)) := fun hne x => x.up fun b o e' hb => up b o (by
      rintro rfl
      rcases hb with hb | hb
      · exact hne hb.symm
      · rw [e] at e'; cases e'; exact tab_nc ht hb) e'
    have gl : Glob G (h'.push (fnMade name q params body scope clos doc ((mg "__name__").getD .none) c' ctv)) := by
      refine ⟨fun b o e' => up b o (by rintro rfl; rw [hnP] at e'; cases e') (hg.keep b o e'), ?_, ?_⟩
      · cases N with
        | n51 => exact new
        | n58 => exact oth (by decide) hg.t51
      · cases N with
        | n51 => exact oth (by decide) hg.t58
        | n58 => exact new
    refine k _ c' ctv doc _ _ _ (fun b o e' h1 h2 => up b o (by cases N with | n51 => exact h1 | n58 => exact h2) e') gl ?_ (Heap.get?_push_size _ rfl) (hrec.push _)
    cases qq : h.get? h'.objs.size with
    | none => rfl
    | some ob => exact absurd (Heap.lt_size qq) (by have : h.objs.size ≤ c' := hge; exact Nat.not_lt.mpr (Nat.le_of_lt (Nat.lt_of_le_of_lt this hlt)))
  · refine makeFunction_hit (s := ⟨h, g, d, t + 1, o⟩) (mg := mg) hcl hge0 hgs hcode (hC.keeps hg.keep) e ht hc (gg.bAt hg hnP) fun ctv doc h' tk hk hsz hle => ?_
    obtain ⟨tk, rfl⟩ := pos_ex hle
    have up : ∀ b o, h.get? b = some o → (h'.push (fnMade name q params body scope clos doc ((mg "__name__").getD .none) c' ctv)).get? b = some o := fun b o e => Heap.get?_push_of_some _ (hk b o e)
    refine k _ c' ctv doc _ _ _ (.of up) (hg.keeps up) ?_ (Heap.get?_push_size _ rfl) (hrec.keeps up)
    cases qq : h.get? h'.objs.size with
    | none => rfl
    | some ob => exact absurd (Heap.lt_size qq) (Nat.not_lt.mpr hsz)

/-- what stands aside stands in the new base -/
theorem Sta.rebase (I : Sta G B env names vals led h) (hn : ∀ p ∈ led, ∀ o, p.2 o → ¬ Codeish o) :
    ∃ B', Kept B B' ∧ (∀ b ob, h.get? b = some ob → b ≠ env.locals → b ∉ led.map (·.1) → B'.get? b = some ob) ∧ (∀ b, h.get? b = none → B'.get? b = none) ∧ Sta G B' env names vals led h := by
  have hide : ∀ a ∈ env.locals :: led.map (·.1), B.get? a = none := fun a ha => by
    rcases List.mem_cons.mp ha with rfl | ha
    · exact I.low
    · obtain ⟨p, hp, rfl⟩ := List.mem_map.mp ha
      exact (I.leds p hp).1
  have hG : ∀ a, B.get? a = none → G.get? a = none := fun a e => by
    cases q : G.get? a with
    | none => rfl
    | some ob => rw [I.gB.keep _ _ q] at e; cases e
  have hnone : ∀ b, h.get? b = none → (hideAll h (env.locals :: led.map (·.1))).get? b = none := fun b e => by
    cases q : (hideAll h (env.locals :: led.map (·.1))).get? b with
    | none => rfl
    | some ob => rw [of_hideAll _ q] at e; cases e
  refine ⟨hideAll h (env.locals :: led.map (·.1)), fun b ob e h1 h2 => ?_, fun b ob e n1 n2 => ?_, hnone, ?_⟩
  · refine hideAll_get _ (I.keep b ob e h1 h2) fun hm => ?_
    rw [hide b hm] at e; cases e
  · exact hideAll_get _ e (by simp only [List.mem_cons, not_or]; exact ⟨n1, n2⟩)
  · refine { I with gB := I.glob.hide _ fun a ha => ?_, low := hideAll_none _ (.head _), keep := .of fun b ob e => of_hideAll _ e, leds := fun p hp => ?_ }
    · have f := I.gB.free (hide a ha)
      refine ⟨hG a (hide a ha), f.1, f.2, fun ob e => ?_⟩
      rcases List.mem_cons.mp ha with rfl | ha
      · obtain ⟨ob', e', hd⟩ := I.live
        rw [e'] at e; cases e
        rintro ⟨vs, q, t, hd', _⟩
        exact hd _ hd'
      · obtain ⟨p, hp, rfl⟩ := List.mem_map.mp ha
        obtain ⟨_, _, ob', e', hp'⟩ := I.leds p hp
        rw [e'] at e; cases e
        exact hn p hp _ hp'
    · obtain ⟨_, h2, h3⟩ := I.leds p hp
      exact ⟨hideAll_none _ (.tail _ (List.mem_map_of_mem hp)), h2, h3⟩

/-- what is asked of a nested def -/
structure NestOk (fd : FuncData) (body : List Stmt) (ps rest : List Str) : Prop where
  body : fd.body = .stmts body
  co : fd.scope.isCoroutine = false
  gen : fd.scope.isGenerator = false
  fn : fd.scope.kind = .function
  cell : (fd.scope.names.all fun x => x.2 != .cell) = true
  loc : ((ps ++ rest).all fun x => fd.scope.names.lookup x == some .local) = true
  nod : (ps ++ rest).Nodup

theorem enterF {f : Addr} {ob : Obj} {fd : FuncData} {body : List Stmt} {ps rest names : List Str} {vals : List V} {args : List Value} {Q : Value → Shared → Prop} (gg : GG w G mg mb) (hg : Glob G h) (hf : h.get? f = some ob) (hd : ob.data = .func fd) (hcd : h.CodeRec fd.code fd.qualname)
    (D : NestOk fd body ps rest) (hroom : A.depth < recursionLimit) (hlen : ps.length = args.length)
    (hbind : bindArgs fd ⟨args, []⟩ = pure (ps.zip args)) (hn : ps ++ rest = names) (hv : args.map V.of ++ unbs rest.length = vals)
    (hx : ∀ p ∈ led, G.get? p.1 = none ∧ p.1 ≠ 51 ∧ p.1 ≠ 58 ∧ (∀ o, p.2 o → ¬ Codeish o) ∧ Has h p.1 p.2) (hnd : (led.map (·.1)).Nodup)
    (k : ∀ h1 t1, Sta G (hideAll h (led.map (·.1))) (callEnv fd h.objs.size f) names vals led h1 →
      W prog w (A.deeper (callEnv fd h.objs.size f)) (execs body (callEnv fd h.objs.size f)) (fun fl s' => Q (retOf fl) s') ⟨h1, g, d, t1 + 1, o⟩) :
    W prog w A (call (.ref f) args) Q ⟨h, g, d, t + 1, o⟩ := by
  subst hn hv
  refine .of (wpAny_call ?_)
  have hcell : ∀ x ∈ fd.scope.names, x.2 ≠ .cell := fun x hx e => by
    have := List.all_eq_true.mp D.cell x hx
    rw [e] at this; cases this
  have kinds : ∀ x ∈ ps ++ rest, fd.scope.names.lookup x = some .local := fun x hx => beq_local (List.all_eq_true.mp D.loc x hx)
  have hloc : ∀ x ∈ ps.zip args, fd.scope.names.lookup x.1 = some .local := fun x hx =>
    kinds x.1 (List.mem_append_left _ ((zip_fst hlen) ▸ List.mem_map_of_mem hx))
  refine codeAny_call_def (fd := fd) (body := body) (binds := ps.zip args) hroom hf hd (gg.lim.keeps hg.keep) hcd D.body (.of_eq hbind) hcell hloc (fun h₁ hns hk₁ => ?_) D.co D.gen D.fn
  have nodp : ps.Nodup := (List.nodup_append.mp D.nod).1
  have et : t + 1 + (ps.zip args).length = (t + (ps.zip args).length) + 1 := by lia
  show wpAny _ _ _ _ _ ⟨h₁, g, d, t + 1 + (ps.zip args).length, o⟩
  rw [et]
  refine wpAny_mono (k h₁ _ ?_).out (fun fl s' q => ?_) fun _ _ q => q.elim
  · have hnone : ∀ b, h.get? b = none → (hideAll h (led.map (·.1))).get? b = none := fun b e => by
      cases q : (hideAll h (led.map (·.1))).get? b with
      | none => rfl
      | some ob => rw [of_hideAll _ q] at e; cases e
    refine ⟨hg.keeps hk₁, hg.hide _ fun a ha => ?_, hnone _ (none_size h), .of fun b ob e => hk₁ _ _ (of_hideAll _ e), ⟨_, hns, fun i x dd h1 h2 hu => ?_⟩, D.nod, kinds, D.fn, (fun p hp => ?_), hnd⟩
    · obtain ⟨p, hp, rfl⟩ := List.mem_map.mp ha
      obtain ⟨a1, a2, a3, a4, ob', e', a5⟩ := hx p hp
      exact ⟨a1, a2, a3, fun o e => by rw [e'] at e; cases e; exact a4 _ a5⟩
    · have e := zip_lookup hlen D.nod h1 h2 hu
      rw [lookup_rev_nodup (by rw [zip_fst hlen]; exact nodp)]
      exact e
    · obtain ⟨a1, a2, a3, a4, ob', e', a5⟩ := hx p hp
      refine ⟨hideAll_none _ (List.mem_map_of_mem hp), ?_, ob', hk₁ _ _ e', a5⟩
      exact Nat.ne_of_lt (Heap.lt_size e')
  · cases fl <;> exact q
end
end Mine
end PartMNest

section PartMBits
open PySem PySem.W PyProof.Rows
set_option autoImplicit false
set_option linter.unusedVariables false
namespace Mine

section
variable {prog : Program} {w : World} {A : Around} {s : Shared} {env : Env} {R : Value → Shared → Prop} {Rb : Bool → Shared → Prop} {Q : Flow → Shared → Prop}
/-- a test that is a plain value -/
theorem xTruth {e : Expr} {whole : Sem Value} (h : W prog w A whole (fun v s₁ => W prog w A (truthy v) Rb s₁) s)
    (he : isTrue e env whole = (do let v ← whole; standAt e.pos; holding [v] (truthy v)) := by rfl) : W prog w A (isTrue e env whole) Rb s :=
  .of (isTrue_plain (wpAny_mono h.out (fun _ _ q => q.out) fun _ _ q => q) he)
theorem xOr {x : Expr} {rest : List Expr} {pos : Pos} {whole : Sem Value} (h : W prog w A (isTrue x env (eval x env)) (fun c s' => if c = true then Rb true s' else W prog w A (isTrue (.BoolOp .Or rest pos) env whole) Rb s') s) : W prog w A (isTrue (.BoolOp .Or (x :: rest) pos) env whole) Rb s :=
  .of (isTrue_or (wpAny_mono h.out (fun c s' q => by cases c <;> simp at q ⊢ <;> first | exact q.out | exact q) fun _ _ q => q))
theorem xOr0 {pos : Pos} {whole : Sem Value} (h : Rb false s) : W prog w A (isTrue (.BoolOp .Or [] pos) env whole) Rb s := .of (isTrue_or_nil h)
theorem xAnd {x : Expr} {rest : List Expr} {pos : Pos} {whole : Sem Value} (h : W prog w A (isTrue x env (eval x env)) (fun c s' => if c = true then W prog w A (isTrue (.BoolOp .And rest pos) env whole) Rb s' else Rb false s') s) : W prog w A (isTrue (.BoolOp .And (x :: rest) pos) env whole) Rb s :=
  .of (isTrue_and (wpAny_mono h.out (fun c s' q => by cases c <;> simp at q ⊢ <;> first | exact q.out | exact q) fun _ _ q => q))
theorem xAnd0 {pos : Pos} {whole : Sem Value} (h : Rb true s) : W prog w A (isTrue (.BoolOp .And [] pos) env whole) Rb s := .of (isTrue_and_nil h)
end

section
variable {prog : Program} {w : World} {A : Around} {G B h : Heap} {g : Array GenState} {d : Drawn} {t : Nat} {o : OsState} {env : Env} {names : List Str} {vals : List V} {led : Led} {Q : Value → Shared → Prop} {ta tb u : Tok} {a b : Int}
theorem iShr (h0 : 0 ≤ b) (c : ∀ u t', Q (.int (a.fdiv (2 ^ b.toNat)) u) ⟨h, g, d, t' + 1, o⟩) : W prog w A (binaryOp .RShift (.int a ta) (.int b tb)) Q ⟨h, g, d, t + 1, o⟩ := .of (PyProof.Rows.rshift_int h0 (c _ _))
theorem iShl (h0 : 0 ≤ b) (h1 : b ≤ 1000000) (ha : a.natAbs < 2 ^ 64) (c : ∀ u t', Q (.int (a * 2 ^ b.toNat) u) ⟨h, g, d, t' + 1, o⟩) : W prog w A (binaryOp .LShift (.int a ta) (.int b tb)) Q ⟨h, g, d, t + 1, o⟩ := .of (PyProof.Rows.lshift_int_small h0 h1 ha (c _ _))
theorem mBits {pl : Sem Bool} {Q : Value × List Value → Shared → Prop} (c : Q (.builtin "int.bit_length", [.int a ta]) ⟨h, g, d, t, o⟩) : W prog w A (getMethod (.int a ta) (Str.ofString "bit_length") pl) Q ⟨h, g, d, t, o⟩ := .of (PyProof.Rows.getMethod_int_bit_length c)
theorem cBits (c : ∀ u t', Q (.int (Builtin.Int.intBits a) u) ⟨h, g, d, t' + 1, o⟩) : W prog w A (call (.builtin "int.bit_length") [.int a ta]) Q ⟨h, g, d, t + 1, o⟩ := .of (PyProof.Rows.call_int_bit_length (c _ _))
theorem cDivmod (I : Sta G B env names vals led h) (hb : b ≠ 0) (hp : Builtin.divisionGoesByPylong a b = false) (c : ∀ r h' t', Sta G B env names vals ((r, Tup [.int (a.fdiv b), .int (a.fmod b)]) :: led) h' → Q (.ref r) ⟨h', g, d, t' + 1, o⟩) :
    W prog w A (call (.builtin "divmod") [.int a ta, .int b tb]) Q ⟨h, g, d, t + 1, o⟩ :=
  .of (PyProof.Rows.divmod_int hb (c _ _ _ (I.pushK (fun _ _ e => Heap.get?_push_of_some _ e) (none_size h) (Heap.get?_push_size _ rfl) ⟨_, _, rfl, .cons (.int _) _ (.cons (.int _) _ .nil)⟩)) (.inl hp))
theorem tLst {l : Addr} {ds : List V} {Rb : Bool → Shared → Prop} (hl : Has h l (LstR ds)) (hf : ds.length < 2 ^ 62) (c : ∀ t', Rb (!ds.isEmpty) ⟨h, g, d, t' + 1, o⟩) : W prog w A (truthy (.ref l)) Rb ⟨h, g, d, t + 1, o⟩ := by
  obtain ⟨vs, hl', hv⟩ := hl.isListR
  refine .of (PySem.wpAny_truthy_list hl' (by simp only [List.size_toArray, hv.length]; lia) ?_)
  have e : vs.toArray.isEmpty = ds.isEmpty := by
    have := hv.length
    cases vs <;> cases ds <;> simp_all
  rw [e]
  exact c _
/-- reversed(xs), walked -/
theorem cRev {l : Addr} {ds : List V} {R : Value → Shared → Prop} (I : Sta G B env names vals led h) (hl : Has h l (LstR ds))
    (c : ∀ a h', Sta G B env names vals ((a, ItV l ds.length 0) :: led) h' → R (.ref a) ⟨h', g, d, t, o⟩) : W prog w A (call (.type "reversed") [.ref l]) R ⟨h, g, d, t, o⟩ := by
  obtain ⟨vs, hl', hv⟩ := hl.isListR
  refine .of (call_reversed_list hl' (c _ _ (I.pushK (fun _ _ e => Heap.get?_push_of_some _ e) (none_size h) (Heap.get?_push_size _ rfl) ⟨rfl, ?_⟩)))
  simp only [List.size_toArray, hv.length]
  show Data.fields _ = Data.fields _
  simp
theorem pIterV {x l : Addr} {n i : Nat} {R : Value → Shared → Prop} (hx : Has h x (ItV l n i)) (c : R (.ref x) ⟨h, g, d, t, o⟩) : W prog w A (pyIter (.ref x)) R ⟨h, g, d, t, o⟩ := by
  obtain ⟨ob, e, c1, c2⟩ := hx
  exact .of (wpAny_pyIter_revIter (s := ⟨h, g, d, t, o⟩) ⟨ob, e, c1, c2⟩ c)
theorem Vals.reverse : ∀ {vs : List Value} {ds : List V}, Vals vs ds → Vals vs.reverse ds.reverse
  | _, _, .nil => .nil
  | _, _, .cons d t h => by
    rw [List.reverse_cons, List.reverse_cons]
    exact (Vals.reverse h).append (.cons d t .nil)
theorem mReverse {l : Addr} {ds : List V} {pl : Sem Bool} {Q : Value × List Value → Shared → Prop} (hl : Has h l (Lst ds)) (c : Q (.builtin "list.reverse", [.ref l]) ⟨h, g, d, t, o⟩) : W prog w A (getMethod (.ref l) (Str.ofString "reverse") pl) Q ⟨h, g, d, t, o⟩ := by
  obtain ⟨vs, n, e, hv⟩ := hl.list
  refine .of (getMethod_list_of (s := ⟨h, g, d, t, o⟩) (items := vs) PySem.F.slot_list_reverse PySem.F.type_list_reverse ⟨_, e, rfl, n, rfl⟩ ?_ c)
  exact ⟨_, e, rfl⟩
theorem cReverse {l : Addr} {ds : List V} {i : Nat} (I : Sta G B env names vals led h) (hi : nth led i = some (l, Lst ds)) (hsz : ds.length ≤ sizeLine)
    (c : ∀ h', Sta G B env names vals (setAt led i (l, Lst ds.reverse)) h' → Q .none ⟨h', g, d, t, o⟩) : W prog w A (call (.builtin "list.reverse") [.ref l]) Q ⟨h, g, d, t, o⟩ := by
  obtain ⟨vs, n, e, hv⟩ := (I.has hi).list
  have hl := hv.length
  simp only [Array.length_toList] at hl
  refine .of (call_meets PySem.F.slot_list_reverse ⟨_, e, rfl⟩ PySem.F.entry_list_reverse (PySem.F.args_list_reverse_1 _) (AutoSeq1.list_reverse_list_0 l vs n (by lia)) ⟨e, ?_⟩)
  have e' : (h.update l (Obj.mapSeq fun x => x.reverse)).get? l = some ⟨.type "list", none, .seq vs.toList.reverse.toArray n, #[]⟩ := by
    rw [Heap.get?_update_self _ e (by rw [mapSeq_reverse]; rfl), mapSeq_reverse]
  exact c _ (I.upd hi (fun o => Lst.nc o) (fun b o hb e => ((Heap.SameBut.update ..).2 b hb).trans e) e' ⟨_, _, rfl, by simpa using hv.reverse⟩)
end
end Mine
end PartMBits

section PartMNum
set_option autoImplicit false
set_option linter.unusedVariables false
namespace Mine

theorem fdivN (a b : Nat) : (a : Int).fdiv (b : Int) = ((a / b : Nat) : Int) := by
  rw [Int.fdiv_eq_ediv_of_nonneg _ (Int.natCast_nonneg b)]; rfl
theorem fmodN (a b : Nat) : (a : Int).fmod (b : Int) = ((a % b : Nat) : Int) := by
  rw [Int.fmod_eq_emod_of_nonneg _ (Int.natCast_nonneg b)]; rfl
theorem pow2N (k : Nat) : (2 : Int) ^ k = ((2 ^ k : Nat) : Int) := by simp

def d2i (n : Nat) : List Nat → Nat
  | [] => 0
  | x :: r => x + 2 ^ n * d2i n r
theorem d2i_append (n : Nat) : ∀ (xs ys : List Nat), d2i n (xs ++ ys) = d2i n xs + 2 ^ (n * xs.length) * d2i n ys
  | [], ys => by simp [d2i]
  | x :: xs, ys => by
    simp only [List.cons_append, d2i, d2i_append n xs ys, List.length_cons]
    rw [Nat.mul_add, ← Nat.mul_assoc, ← Nat.pow_add, Nat.mul_succ, Nat.add_comm (n * xs.length) n, Nat.add_assoc]
theorem d2i_bound (n : Nat) : ∀ (xs : List Nat), (∀ x ∈ xs, x < 2 ^ n) → d2i n xs < 2 ^ (n * xs.length)
  | [], _ => by simp [d2i]
  | x :: xs, h => by
    have h1 := h x (.head _)
    have h2 := d2i_bound n xs fun y hy => h y (.tail _ hy)
    simp only [d2i, List.length_cons]
    rw [Nat.mul_succ, Nat.add_comm (n * xs.length) n, Nat.pow_add]
    have h3 : 2 ^ n * (d2i n xs + 1) ≤ 2 ^ n * 2 ^ (n * xs.length) := Nat.mul_le_mul_left _ h2
    rw [Nat.mul_add] at h3
    lia

def seg (n : Nat) (ns : List Nat) (L R : Nat) : Nat := d2i n ((ns.drop L).take (R - L))
theorem seg_split {n : Nat} {ns : List Nat} {L m R : Nat} (h1 : L ≤ m) (h2 : m ≤ R) (h3 : R ≤ ns.length) : seg n ns L R = seg n ns m R * 2 ^ ((m - L) * n) + seg n ns L m := by
  unfold seg
  have e : (ns.drop L).take (R - L) = (ns.drop L).take (m - L) ++ (ns.drop m).take (R - m) := by
    rw [show R - L = (m - L) + (R - m) by lia, List.take_add, List.drop_drop]
    rw [show L + (m - L) = m by lia]
  rw [e, d2i_append]
  have hl : ((ns.drop L).take (m - L)).length = m - L := by simp; lia
  rw [hl, Nat.mul_comm n (m - L), Nat.mul_comm (2 ^ _)]
  lia
theorem seg_one {n : Nat} {ns : List Nat} {L x : Nat} (h : ns[L]? = some x) : seg n ns L (L + 1) = x := by
  unfold seg
  have hl := (List.getElem?_eq_some_iff.mp h).1
  rw [show L + 1 - L = 1 by lia]
  rw [List.drop_eq_getElem_cons hl]
  have : ns[L] = x := by simpa [hl] using h
  simp [d2i, this]
theorem seg_bound {n : Nat} {ns : List Nat} {L R k : Nat} (h : ∀ x ∈ ns, x < 2 ^ n) (h3 : R ≤ ns.length) (hk : n * ns.length ≤ k) : seg n ns L R < 2 ^ k := by
  refine Nat.lt_of_lt_of_le (d2i_bound n _ fun x hx => h x (List.mem_of_mem_drop (List.mem_of_mem_take hx))) (Nat.pow_le_pow_right (by decide) (Nat.le_trans (Nat.mul_le_mul_left _ ?_) hk))
  simp; lia
theorem seg_all {n : Nat} {ns : List Nat} : seg n ns 0 ns.length = d2i n ns := by simp [seg]

def dig (n x i : Nat) : Nat := x / 2 ^ (n * i) % 2 ^ n
theorem dig_lt (n x i : Nat) : dig n x i < 2 ^ n := Nat.mod_lt _ (Nat.two_pow_pos n)
theorem dig_low {n x i k : Nat} (h : i < k) : dig n (x % 2 ^ (k * n)) i = dig n x i := by
  unfold dig
  have e : 2 ^ (k * n) = 2 ^ (n * i) * 2 ^ (n * (k - i)) := by rw [← Nat.pow_add, ← Nat.mul_add, show i + (k - i) = k by lia, Nat.mul_comm]
  rw [e, Nat.mod_mul_right_div_self]
  rw [show n * (k - i) = n + n * (k - i - 1) by rw [show k - i = (k - i - 1) + 1 by lia, Nat.mul_succ]; simp; lia, Nat.pow_add]
  exact Nat.mod_mul_right_mod _ _ _
theorem dig_high {n x i k : Nat} : dig n (x / 2 ^ (k * n)) i = dig n x (k + i) := by
  unfold dig
  rw [Nat.div_div_eq_div_mul, ← Nat.pow_add, Nat.mul_add, Nat.mul_comm k n]
def fill (n x L R : Nat) (ds : List Nat) : List Nat := (List.range ds.length).map fun i => if L ≤ i ∧ i < R then dig n x (i - L) else ds.getD i 0
theorem fill_length (n x L R : Nat) (ds : List Nat) : (fill n x L R ds).length = ds.length := by simp [fill]
theorem fill_one {n x L : Nat} {ds : List Nat} (hx : x < 2 ^ n) (hL : L < ds.length) : ds.set L x = fill n x L (L + 1) ds := by
  apply List.ext_getElem
  · simp [fill]
  · intro i h1 h2
    simp only [List.length_set] at h1
    simp only [fill, List.getElem_map, List.getElem_range, List.getElem_set]
    by_cases q : L = i
    · subst q
      simp [dig, Nat.mod_eq_of_lt hx]
    · rw [if_neg q, if_neg (by lia)]
      simp [List.getD, h1]
theorem fill_split {n x L m R : Nat} {ds : List Nat} (h1 : L ≤ m) (h2 : m ≤ R) : fill n (x / 2 ^ ((m - L) * n)) m R (fill n (x % 2 ^ ((m - L) * n)) L m ds) = fill n x L R ds := by
  apply List.ext_getElem
  · simp [fill]
  · intro i q1 q2
    have hi : i < ds.length := by simpa [fill] using q2
    simp only [fill, List.getElem_map, List.getElem_range, List.length_map, List.length_range]
    by_cases c1 : m ≤ i ∧ i < R
    · rw [if_pos c1, if_pos (by lia), dig_high, show m - L + (i - m) = i - L by lia]
    · rw [if_neg c1]
      rw [List.getD_eq_getElem?_getD, List.getElem?_eq_getElem (by simpa using hi), Option.getD_some]
      simp only [List.getElem_map, List.getElem_range]
      by_cases c2 : L ≤ i ∧ i < m
      · rw [if_pos c2, if_pos (by lia), dig_low (by lia)]
      · rw [if_neg c2, if_neg (by lia)]
theorem fill_all {n x k : Nat} : fill n x 0 k (List.replicate k 0) = (List.range k).map (dig n x) := by
  apply List.ext_getElem
  · simp [fill]
  · intro i h1 h2
    have : i < k := by simpa using h2
    simp [fill, this]

theorem xor_low (x s : Nat) : PySem.Builtin.bitXor (x : Int) ((x / 2 ^ s * 2 ^ s : Nat) : Int) = ((x % 2 ^ s : Nat) : Int) := by
  rw [PyProof.Rows.bitXor_and, PyProof.Rows.bitAnd_pp (Int.natCast_nonneg _) (Int.natCast_nonneg _)]
  have e : ((x : Int).toNat &&& ((x / 2 ^ s * 2 ^ s : Nat) : Int).toNat) = x / 2 ^ s * 2 ^ s := by
    simp only [Int.toNat_natCast]
    apply Nat.eq_of_testBit_eq
    intro i
    rw [Nat.testBit_and, Nat.mul_comm, Nat.testBit_two_pow_mul, Nat.testBit_div_two_pow]
    by_cases q : s ≤ i
    · simp [q, show i - s + s = i by lia]
    · simp [q]
  rw [e]
  have := Nat.div_add_mod x (2 ^ s)
  have h2 := Nat.mul_comm (2 ^ s) (x / 2 ^ s)
  lia

theorem bits_lt {x k : Nat} (h : x < 2 ^ k) : PySem.Builtin.Int.intBits (x : Int) ≤ k := PySem.intBits_le_iff.mpr (by simpa using h)
theorem lt_bits (x : Nat) : x < 2 ^ PySem.Builtin.Int.intBits (x : Int) := by
  have := (PySem.intBits_le_iff (m := PySem.Builtin.Int.intBits (x : Int)) (x := (x : Int))).mp (Nat.le_refl _)
  simpa using this
theorem bits_pos {x : Nat} (h : 0 < x) : 0 < PySem.Builtin.Int.intBits (x : Int) := by
  rcases Nat.eq_zero_or_pos (PySem.Builtin.Int.intBits (x : Int)) with e | e
  · have := lt_bits x
    rw [e] at this; lia
  · exact e
theorem mulOk {a b : Int} (h : a.natAbs < 2 ^ 64) : PySem.IntMulOk a b := PySem.IntMulOk.of_left (PySem.intBits_le_iff.mpr h)
theorem noPl {a b : Int} (h : b.natAbs < 1073741824) : PySem.Builtin.divisionGoesByPylong a b = false := PyProof.noPylong_small h
end Mine
end PartMNum

section PartMDig
open PySem PySem.W PyProof.Rows
set_option autoImplicit false
set_option linter.unusedVariables false
namespace Mine

abbrev iv (ns : List Nat) : List V := ns.map fun x : Nat => V.int (x : Int)
/-- the nested def's parts: parameters, body, scope -/
noncomputable def nestOf (l : List Stmt) : Arguments × List Stmt × Scope := match l with
  | .FunctionDef _ ps body _ _ _ scope _ _ _ :: _ => (ps, body, scope)
  | _ => (default, [], default)
noncomputable def n58 (P : Params) : Arguments × List Stmt × Scope := nestOf (bodyOf P 63)
noncomputable def n51 (P : Params) : Arguments × List Stmt × Scope := nestOf ((bodyOf P 56).drop 1)
noncomputable def fd58 (P : Params) (clos : List (Str × Addr)) (doc pm : Value) (c' : Addr) (ctv : Value) : FuncData := fnX (Str.ofString "inner") q58 (n58 P).1 (n58 P).2.1 (n58 P).2.2 clos .none .none doc pm none (.ref c') ctv
noncomputable def fd51 (P : Params) (clos : List (Str × Addr)) (doc pm : Value) (c' : Addr) (ctv : Value) : FuncData := fnX (Str.ofString "inner") q51 (n51 P).1 (n51 P).2.1 (n51 P).2.2 clos .none .none doc pm none (.ref c') ctv

noncomputable abbrev F58 (P : Params) (c1 c2 c3 : Addr) (doc pm : Value) (c' : Addr) (ctv : Value) : FuncData := fd58 P [(Str.ofString "n", c2), (Str.ofString "inner", c3), (Str.ofString "digits", c1)] doc pm c' ctv
noncomputable abbrev F51 (P : Params) (c1 c2 c3 : Addr) (doc pm : Value) (c' : Addr) (ctv : Value) : FuncData := fd51 P [(Str.ofString "n", c1), (Str.ofString "inner", c3), (Str.ofString "a_digits", c2)] doc pm c' ctv
abbrev fo (fd : FuncData) : Obj := { cls := .type "function", data := .func fd }
theorem ok58 (P : Params) (clos : List (Str × Addr)) (doc pm : Value) (c' : Addr) (ctv : Value) : NestOk (fd58 P clos doc pm c' ctv) (n58 P).2.1 [Str.ofString "L", Str.ofString "R"] [Str.ofString "mid", Str.ofString "shift"] where
  body := by kernel_rfl
  co := by kernel_rfl
  gen := by kernel_rfl
  fn := by kernel_rfl
  cell := by kernel_rfl
  loc := by kernel_rfl
  nod := by decide +kernel
theorem ok51 (P : Params) (clos : List (Str × Addr)) (doc pm : Value) (c' : Addr) (ctv : Value) : NestOk (fd51 P clos doc pm c' ctv) (n51 P).2.1 [Str.ofString "x", Str.ofString "L", Str.ofString "R"] [Str.ofString "mid", Str.ofString "shift", Str.ofString "upper", Str.ofString "lower"] where
  body := by kernel_rfl
  co := by kernel_rfl
  gen := by kernel_rfl
  fn := by kernel_rfl
  cell := by kernel_rfl
  loc := by kernel_rfl
  nod := by decide +kernel

theorem CodeRec.kept {G h h' : Heap} {c : Addr} {q : Str} (x : h.CodeRec (.ref c) q) (g : Glob G h) (k : Kept h h') : h'.CodeRec (.ref c) q := by
  have n := g.nTab x
  obtain ⟨c', o, vs, t, e, ho, hd, hv⟩ := x
  cases e
  exact ⟨_, o, vs, t, rfl, k _ _ ho n.1 n.2, hd, hv⟩

/-- what stands around the inner of _digits2int -/
structure A58 (G : Heap) (P : Params) (h : Heap) (f c1 c2 c3 dl c' : Addr) (fd : FuncData) (n : Nat) (ns : List Nat) : Prop where
  fn : Has h f (Is (fo fd))
  code : h.CodeRec (.ref c') q58
  k1 : Has h c1 (Cel (.ref dl))
  k2 : Has h c2 (Cel (.int n))
  k3 : Has h c3 (Cel (.ref f))
  kd : Has h dl (LstR (iv ns))
  nt : ∀ x, x = f ∨ x = c1 ∨ x = c2 ∨ x = c3 ∨ x = dl → x ≠ 51 ∧ x ≠ 58
theorem A58.kept {G : Heap} {P : Params} {h h' : Heap} {f c1 c2 c3 dl c' : Addr} {fd : FuncData} {n : Nat} {ns : List Nat} (x : A58 G P h f c1 c2 c3 dl c' fd n ns) (g : Glob G h) (k : Kept h h') : A58 G P h' f c1 c2 c3 dl c' fd n ns :=
  ⟨x.fn.kept (G := G) k (x.nt _ (by simp)), CodeRec.kept x.code g k, x.k1.kept (G := G) k (x.nt _ (by simp)), x.k2.kept (G := G) k (x.nt _ (by simp)), x.k3.kept (G := G) k (x.nt _ (by simp)), x.kd.kept (G := G) k (x.nt _ (by simp)), x.nt⟩

section
variable {prog : Program} {w : World} {G : Heap} {g : Array GenState} {d : Drawn} {o : OsState} {mg mb : Str → Option Value}
def mid (L R : Nat) : Nat := (L + R) / 2
theorem mid_eq (L R : Nat) : ((L : Int) + (R : Int)).fdiv (2 ^ (1 : Int).toNat) = ((mid L R : Nat) : Int) := by
  have : ((L : Int) + (R : Int)) = ((L + R : Nat) : Int) := by lia
  rw [this, pow2N, fdivN]; rfl

theorem inner58_ok (gg : GG w G mg mb) {f c1 c2 c3 dl c' : Addr} {doc pm ctv : Value} {n : Nat} {ns : List Nat}
    (hb : ∀ x ∈ ns, x < 2 ^ n) (hk : n * ns.length ≤ 63) (hl : ns.length ≤ 63) (hn : n ≤ 63) :
    ∀ (m L R : Nat), R - L ≤ m → L < R → R ≤ ns.length → ∀ {A : Around} {h : Heap} {t : Nat} {u1 u2 : Tok} {Q : Value → Shared → Prop}, Glob G h →
      A58 G w.params h f c1 c2 c3 dl c' (F58 w.params c1 c2 c3 doc pm c' ctv) n ns → A.depth + m < recursionLimit →
      (∀ h' t' u, Kept h h' → Glob G h' → Q (.int (seg n ns L R) u) ⟨h', g, d, t' + 1, o⟩) → W prog w A (call (.ref f) [.int L u1, .int R u2]) Q ⟨h, g, d, t + 1, o⟩ := by
  intro m
  induction m with
  | zero => intro L R h1 h2; lia
  | succ m ih =>
    intro L R h1 h2 h3 A h t u1 u2 Q hg X hroom k
    obtain ⟨_, ef, rfl⟩ := X.fn
    refine enterF (ps := [Str.ofString "L", Str.ofString "R"]) (rest := [Str.ofString "mid", Str.ofString "shift"]) (names := [Str.ofString "L", Str.ofString "R", Str.ofString "mid", Str.ofString "shift"]) (vals := [.int L, .int R, .unb, .unb]) (led := []) gg hg ef rfl X.code (ok58 _ _ _ _ _ _) (by lia) rfl (by kernel_rfl) rfl rfl
      (fun p hp => nomatch hp) List.nodup_nil fun h0 t0 I => ?_
    have K0 : Kept h h0 := I.keep
    have X0 := X.kept hg K0
    refine xCons ?_
    refine xIf ?_
    refine xTest ?_
    refine xBin ?_
    refine lI I (i := 0) rfl rfl fun _ => ?_
    refine cInt fun _ _ => ?_
    refine iAdd fun _ _ => ?_
    refine lI I (i := 1) rfl rfl fun _ => ?_
    refine iEq ?_
    refine tBool ?_
    by_cases q : ((L : Int) + 1 == (R : Int)) = true
    · refine br_t q ?_
      have e : R = L + 1 := by have : (L : Int) + 1 = R := by simpa using q
                               lia
      subst e
      obtain ⟨x, hx⟩ : ∃ x, ns[L]? = some x := ⟨ns[L], by simp [h3]⟩
      refine xCons ?_
      refine xReturn ?_
      refine xSub ?_
      refine lFr X0.k1 fun _ => ?_
      refine lI I (i := 0) rfl rfl fun _ => ?_
      refine tList (v := V.int x) X0.kd (by lia) (by lia) (by rw [Int.toNat_natCast, List.getElem?_map, hx]; rfl) fun _ => ?_
      rw [seg_one hx] at k
      exact k _ _ _ K0 I.glob
    · refine br_n q ?_
      have e : L + 1 ≠ R := by
        intro e
        exact q (by simp; lia)
      obtain ⟨M, hM, hm⟩ : ∃ M, mid L R = M ∧ M = (L + R) / 2 := ⟨_, rfl, rfl⟩
      have ec : (((M : Nat) : Int) - (L : Int)) = ((M - L : Nat) : Int) := by lia
      have es : (((M : Nat) : Int) - (L : Int)) * (n : Int) = (((M - L) * n : Nat) : Int) := by rw [ec]; simp
      have hs1 : (M - L) * n ≤ 63 * 63 := Nat.mul_le_mul (by lia) hn
      refine xNil ?_
      refine xCons ?_
      refine xAssign ?_
      refine xBin ?_
      refine xBin ?_
      refine lI I (i := 0) rfl rfl fun _ => ?_
      refine lI I (i := 1) rfl rfl fun _ => ?_
      refine iAdd fun _ _ => ?_
      refine cInt fun _ _ => ?_
      refine iShr (by decide) fun _ _ => ?_
      rw [mid_eq, hM]
      refine sI I (i := 2) rfl fun h1 t1 I1 => ?_
      simp only [setAt] at I1
      have X1 := X.kept hg I1.keep
      refine xCons ?_
      refine xAssign ?_
      refine xBin ?_
      refine xBin ?_
      refine lI I1 (i := 2) rfl rfl fun _ => ?_
      refine lI I1 (i := 0) rfl rfl fun _ => ?_
      refine iSub fun _ _ => ?_
      refine lFr X1.k2 fun _ => ?_
      refine iMul (mulOk (by lia)) fun _ _ => ?_
      rw [es]
      refine sI I1 (i := 3) rfl fun h2 t2 I2 => ?_
      simp only [setAt] at I2
      have X2 := X.kept hg I2.keep
      refine xCons ?_
      refine xReturn ?_
      refine xBin ?_
      refine xBin ?_
      refine xCall ?_
      refine lFr X2.k3 fun _ => ?_
      obtain ⟨_, ef2, rfl⟩ := X2.fn
      refine xDef (ob := fo (F58 w.params c1 c2 c3 doc pm c' ctv)) (fd := F58 w.params c1 c2 c3 doc pm c' ctv) rfl ?_
      refine xArg ?_
      refine lI I2 (i := 2) rfl rfl fun _ => ?_
      refine xArg ?_
      refine lI I2 (i := 1) rfl rfl fun _ => ?_
      refine xArgs ⟨ef2, ?_⟩
      refine ih M R (by lia) (by lia) h3 I2.glob X2 (by rw [depth_deeper]; lia) fun h3 t3 u3 K3 G3 => ?_
      have I3 := I2.back K3 G3
      have X3 := X.kept hg I3.keep
      refine lI I3 (i := 3) rfl rfl fun _ => ?_
      have b1 : seg n ns M R < 2 ^ 63 := seg_bound hb (by assumption) hk
      refine iShl (by lia) (by lia) (by lia) fun _ _ => ?_
      refine xCall ?_
      refine lFr X3.k3 fun _ => ?_
      obtain ⟨_, ef3, rfl⟩ := X3.fn
      refine xDef (ob := fo (F58 w.params c1 c2 c3 doc pm c' ctv)) (fd := F58 w.params c1 c2 c3 doc pm c' ctv) rfl ?_
      refine xArg ?_
      refine lI I3 (i := 0) rfl rfl fun _ => ?_
      refine xArg ?_
      refine lI I3 (i := 2) rfl rfl fun _ => ?_
      refine xArgs ⟨ef3, ?_⟩
      refine ih L M (by lia) (by lia) (by lia) I3.glob X3 (by rw [depth_deeper]; lia) fun h4 t4 u4 K4 G4 => ?_
      have I4 := I3.back K4 G4
      refine iAdd fun _ _ => ?_
      have ev : ((seg n ns M R : Nat) : Int) * 2 ^ (((M - L) * n : Nat) : Int).toNat + ((seg n ns L M : Nat) : Int) = ((seg n ns L R : Nat) : Int) := by
        rw [seg_split (n := n) (ns := ns) (L := L) (m := M) (R := R) (by lia) (by lia) (by assumption), Int.toNat_natCast, pow2N]
        simp
      rw [ev]
      exact k _ _ _ I4.keep I4.glob
end
end Mine
end PartMDig

section PartMDig2
open PySem PySem.W PyProof.Rows
set_option autoImplicit false
set_option linter.unusedVariables false
namespace Mine

theorem d63 (P : Params) : DefC P 63 [Str.ofString "digits", Str.ofString "n"] [] where
  at_ := by kernel_rfl
  body := by kernel_rfl
  code := by kernel_rfl
  co := by kernel_rfl
  gen := by kernel_rfl
  clos := by kernel_rfl
  fn := by kernel_rfl
  kind := by kernel_rfl
  loc := by kernel_rfl
  nod := by decide +kernel
theorem d56 (P : Params) : DefC P 56 [Str.ofString "a", Str.ofString "n"] [Str.ofString "a"] where
  at_ := by kernel_rfl
  body := by kernel_rfl
  code := by kernel_rfl
  co := by kernel_rfl
  gen := by kernel_rfl
  clos := by kernel_rfl
  fn := by kernel_rfl
  kind := by kernel_rfl
  loc := by kernel_rfl
  nod := by decide +kernel
theorem fo_nc {fd : FuncData} (o : Obj) (x : Is (fo fd) o) : ¬ Codeish o := by
  cases x
  rintro ⟨vs, q, t, hd, _⟩
  cases hd
section
variable {G B h : Heap} {env : Env} {names : List Str} {vals : List V} {led : Led}
theorem Sta.code {c : Addr} {q : Str} (I : Sta G B env names vals led h) (hn : ∀ p ∈ led, ∀ o, p.2 o → ¬ Codeish o) (x : h.CodeRec (.ref c) q) :
    ∃ B', Kept B B' ∧ Sta G B' env names vals led h ∧ B'.CodeRec (.ref c) q := by
  obtain ⟨B', K, cov, _, J⟩ := I.rebase hn
  refine ⟨B', K, J, ?_⟩
  obtain ⟨ob, e, hc⟩ := CodeRec.codeish x
  obtain ⟨c', o, vs, t, e', ho, hd, hv⟩ := x
  cases e'
  refine ⟨_, o, vs, t, rfl, cov _ _ ho ?_ ?_, hd, hv⟩
  · rintro rfl
    obtain ⟨o2, e2, hf⟩ := I.live
    rw [ho] at e2; cases e2
    exact hf _ hd
  · intro hm
    obtain ⟨p, hp, e3⟩ := List.mem_map.mp hm
    obtain ⟨_, _, o4, e4, p4⟩ := I.leds p hp
    rw [e3, e] at e4; cases e4
    exact hn p hp _ p4 hc
end
section
variable {prog : Program} {w : World} {A : Around} {G h : Heap} {g : Array GenState} {d : Drawn} {t : Nat} {o : OsState} {mg mb : Str → Option Value}
theorem mkFn2 {env : Env} {c P : Addr} {pos pos' : Pos} {q q' name : Str} {params : Arguments} {body : List Stmt} {scope : Scope} {clos : List (Str × Addr)} {fl : Nat} {R : Value → Shared → Prop} (gg : GG w G mg mb) (hg : Glob G h) (N : Nst c P pos' q')
    (hq : q = q') (hp : pos = pos') (hcl : closureFor scope env = pure clos) (hge0 : env.globals = mainGlobals) (hcode : env.code = .ref c)
    (k : ∀ f c' ctv doc pm h' t', Kept h h' → Glob G h' → h.get? f = none → h'.get? f = some (fnMade name q' params body scope clos doc pm c' ctv) → h'.CodeRec (.ref c') q' → R (.ref f) ⟨h', g, d, t' + 1, o⟩) :
    W prog w A (makeFunction name q params (.stmts body) scope env [] [] [] pos fl) R ⟨h, g, d, t + 1, o⟩ := by
  subst hq hp
  exact mkFn gg hg N hcl hge0 hcode k
theorem digits2int_ok {dl : Addr} {n : Nat} {ns : List Nat} {tn : Tok} {Q : Value → Shared → Prop} (gg : GG w G mg mb) (hg : Glob G h) (hroom : A.depth + 70 < recursionLimit)
    (hd : Has h dl (LstR (iv ns))) (n5 : dl ≠ 51 ∧ dl ≠ 58) (hb : ∀ x ∈ ns, x < 2 ^ n) (hk : n * ns.length ≤ 63) (hl : ns.length ≤ 63) (hn : n ≤ 63)
    (k : ∀ h' t' u, Kept h h' → Glob G h' → Q (.int (d2i n ns : Nat) u) ⟨h', g, d, t' + 1, o⟩) :
    W prog w A (call (.ref 63) [.ref dl, .int n tn]) Q ⟨h, g, d, t + 1, o⟩ := by
  refine enterC (lvals := []) (led := fun L => [(L + 1, Cel (.ref dl)), (L + 1 + 1, Cel (.int n)), (L + 1 + 1 + 1, Cel0)]) gg hg (d63 _) (by lia) rfl (by kernel_rfl) ?_ ?_ ?_ fun h0 t0 I => ?_
  · intro L i x dd q1 q2 q3
    cases q2
  · intro L p hp
    simp only [List.mem_cons, List.not_mem_nil, or_false] at hp
    rcases hp with rfl | rfl | rfl
    · exact ⟨Str.ofString "digits", by kernel_rfl, fun ob e => ⟨0, e⟩⟩
    · exact ⟨Str.ofString "n", by kernel_rfl, fun ob e => ⟨tn, e⟩⟩
    · exact ⟨Str.ofString "inner", by kernel_rfl, fun ob e => ⟨_, e⟩⟩
  · intro L
    simp
  generalize hL : h.objs.size = L at I ⊢
  refine xCons ?_
  refine xNest ?_
  refine mkFn2 gg I.glob .n58 (by kernel_rfl) (by kernel_rfl) (clos := [(Str.ofString "n", L + 1 + 1), (Str.ofString "inner", L + 1 + 1 + 1), (Str.ofString "digits", L + 1)]) (by kernel_rfl) (by kernel_rfl) (by kernel_rfl) fun f c' ctv doc pm h1 t1 K1 G1 fr1 e1 cr1 => ?_
  have e1' : h1.get? f = some (fo (F58 w.params (L + 1) (L + 1 + 1) (L + 1 + 1 + 1) doc pm c' ctv)) := e1.trans (by kernel_rfl)
  have I1 := I.push K1 G1 fr1 e1' (P := Is (fo (F58 w.params (L + 1) (L + 1 + 1) (L + 1 + 1 + 1) doc pm c' ctv))) rfl
  obtain ⟨B, KB, I1, crB⟩ := I1.code (by
    intro p hp ob e
    simp only [List.mem_cons, List.not_mem_nil, or_false] at hp
    rcases hp with rfl | rfl | rfl | rfl
    · exact fo_nc ob e
    · exact Cel.nc ob e
    · exact Cel.nc ob e
    · exact Cel0.nc ob e) cr1
  refine sC I1 (i := 3) rfl (fun _ p => p) fun h2 I2 => ?_
  simp only [setAt] at I2
  have fin : ∀ h3, Sta G B (cenvC w 63 L) [] [] [(f, Is (fo (F58 w.params (L + 1) (L + 1 + 1) (L + 1 + 1 + 1) doc pm c' ctv))), (L + 1, Cel (.ref dl)), (L + 1 + 1, Cel (.int n)), (L + 1 + 1 + 1, Cel (.ref f))] h3 →
      A58 G w.params h3 f (L + 1) (L + 1 + 1) (L + 1 + 1 + 1) dl c' (F58 w.params (L + 1) (L + 1 + 1) (L + 1 + 1 + 1) doc pm c' ctv) n ns := by
    intro h3 J
    refine ⟨J.has (i := 0) rfl, CodeRec.kept crB J.gB J.keep, J.has (i := 1) rfl, J.has (i := 2) rfl, J.has (i := 3) rfl, (hd.kept (G := G) KB n5).kept (G := G) J.keep n5, ?_⟩
    rintro x (rfl | rfl | rfl | rfl | rfl)
    · exact J.n5 (i := 0) rfl
    · exact J.n5 (i := 1) rfl
    · exact J.n5 (i := 2) rfl
    · exact J.n5 (i := 3) rfl
    · exact n5
  refine xCons ?_
  refine xReturn ?_
  refine xIfExp ?_
  refine xTruth ?_
  refine lC (I2.has (i := 1) rfl) fun _ => ?_
  have X2 := fin _ I2
  refine tLst X2.kd (by simp; lia) fun t3 => ?_
  by_cases q : (!(iv ns).isEmpty) = true
  · refine br_t q ?_
    have h0 : 0 < ns.length := by
      cases ns with
      | nil => cases q
      | cons a r => simp
    refine xCall ?_
    refine lC (I2.has (i := 3) rfl) fun _ => ?_
    obtain ⟨_, ef2, rfl⟩ := X2.fn
    refine xDef (ob := fo (F58 w.params (L + 1) (L + 1 + 1) (L + 1 + 1 + 1) doc pm c' ctv)) (fd := F58 w.params (L + 1) (L + 1 + 1) (L + 1 + 1 + 1) doc pm c' ctv) rfl ?_
    refine xArg ?_
    refine cInt fun _ _ => ?_
    refine xArg ?_
    refine xCall ?_
    refine bload gg I2.glob (b_len _) ?_
    refine xBuiltin ?_
    refine xArg ?_
    refine lC (I2.has (i := 1) rfl) fun _ => ?_
    refine xArgs ?_
    refine cLen X2.kd (by simp; lia) fun _ _ => ?_
    refine xArgs ⟨ef2, ?_⟩
    have el : ((iv ns).length : Int) = ((ns.length : Nat) : Int) := by simp
    rw [el]
    refine inner58_ok gg hb hk hl hn 63 0 ns.length (by lia) h0 (Nat.le_refl _) I2.glob X2 (by rw [depth_deeper]; lia) fun h4 t4 u4 K4 G4 => ?_
    have I4 := I2.back K4 G4
    rw [seg_all]
    exact k _ _ _ (KB.trans I4.keep) I4.glob
  · refine br_n q ?_
    have e : ns = [] := by
      cases ns with
      | nil => rfl
      | cons a r => exact absurd rfl q
    subst e
    refine cInt fun _ _ => ?_
    exact k _ _ _ (KB.trans I2.keep) I2.glob
end
end Mine
end PartMDig2

section PartMDig3
open PySem PySem.W PyProof.Rows
set_option autoImplicit false
set_option linter.unusedVariables false
namespace Mine

section
variable {G B h h' : Heap} {env : Env} {names : List Str} {vals : List V} {led : Led}
theorem Sta.lend {i : Nat} {a : Addr} {P P' : Obj → Prop} (I : Sta G B env names vals led h) (hi : nth led i = some (a, P)) (K : Kept (hideAll h [a]) h') (g : Glob G h') (x : Has h' a P') : Sta G B env names vals (setAt led i (a, P')) h' := by
  obtain ⟨ha, hL, _⟩ := I.leds _ (nth_mem hi)
  have up : ∀ b ob, b ≠ a → b ≠ 51 → b ≠ 58 → h.get? b = some ob → h'.get? b = some ob := fun b ob n1 n2 n3 e => K b ob (hideAll_get _ e (by simpa using n1)) n2 n3
  refine I.rebuild [a] g (fun b hb => by rw [List.mem_singleton.mp hb]; exact ⟨ha, hL⟩) (fun b ob hb n1 n2 e => up b ob (by simpa using hb) n1 n2 e) (fun p hp => ?_) (by rw [map_setAt (b := (a, P')) (·.1) hi rfl]; exact I.dist)
  rcases mem_setAt hp with rfl | ⟨j, hj, e⟩
  · exact ⟨ha, hL, x⟩
  · obtain ⟨c1, c2, ob, c3, c4⟩ := I.leds p (nth_mem e)
    have f := I.gB.free c1
    refine ⟨c1, c2, ob, up _ _ (fun e' => hj ?_) f.1 f.2 c3, c4⟩
    have e1 := nth_map (fun p : Addr × (Obj → Prop) => p.1) e
    have e2 := nth_map (fun p : Addr × (Obj → Prop) => p.1) hi
    rw [e'] at e1
    exact nth_inj I.dist e1 e2
end
section
variable {prog : Program} {w : World} {A : Around} {s : Shared} {env : Env} {Q : Flow → Shared → Prop}
theorem xAssignSub {ob i : Expr} {pos' pos : Pos} {value : Expr} (h : W prog w A (eval value env) (fun v s₁ => W prog w A (eval ob env) (fun ov s₂ => W prog w A (eval i env) (fun iv s₃ => W prog w A (setItem ov iv v) (fun _ => Q .next) s₃) s₂) s₁) s)
    (hs : swapsWith value (some (.Subscript ob i pos')) pos.line env = pure false := by kernel_rfl) : W prog w A (exec (.Assign [.Subscript ob i pos'] value pos) env) Q s :=
  .of (wpAny_Assign_Subscript (wpAny_mono h.out (fun _ _ q => wpAny_mono q.out (fun _ _ q => wpAny_mono q.out (fun _ _ q => q.out) fun _ _ q => q) fun _ _ q => q) fun _ _ q => q) hs)
end

/-- what stands around the inner of _int2digits -/
structure A51 (G : Heap) (P : Params) (h : Heap) (f c1 c2 c3 dl c' : Addr) (fd : FuncData) (n : Nat) : Prop where
  fn : Has h f (Is (fo fd))
  code : h.CodeRec (.ref c') q51
  k1 : Has h c1 (Cel (.int n))
  k2 : Has h c2 (Cel (.ref dl))
  k3 : Has h c3 (Cel (.ref f))
  nt : ∀ x, x = f ∨ x = c1 ∨ x = c2 ∨ x = c3 → x ≠ 51 ∧ x ≠ 58
theorem A51.kept {G : Heap} {P : Params} {h h' : Heap} {f c1 c2 c3 dl c' : Addr} {fd : FuncData} {n : Nat} (x : A51 G P h f c1 c2 c3 dl c' fd n) (g : Glob G h) (k : Kept h h') : A51 G P h' f c1 c2 c3 dl c' fd n :=
  ⟨x.fn.kept (G := G) k (x.nt _ (by simp)), CodeRec.kept x.code g k, x.k1.kept (G := G) k (x.nt _ (by simp)), x.k2.kept (G := G) k (x.nt _ (by simp)), x.k3.kept (G := G) k (x.nt _ (by simp)), x.nt⟩
theorem A51.unhide {G : Heap} {P : Params} {h : Heap} {as : List Addr} {f c1 c2 c3 dl c' : Addr} {fd : FuncData} {n : Nat} (x : A51 G P (hideAll h as) f c1 c2 c3 dl c' fd n) : A51 G P h f c1 c2 c3 dl c' fd n := by
  have up : ∀ {a P}, Has (hideAll h as) a P → Has h a P := fun ⟨ob, e, p⟩ => ⟨ob, of_hideAll _ e, p⟩
  obtain ⟨c, o, vs, t, e', ho, hd, hv⟩ := x.code
  exact ⟨up x.fn, ⟨c, o, vs, t, e', of_hideAll _ ho, hd, hv⟩, up x.k1, up x.k2, up x.k3, x.nt⟩
/-- the list is hidden -/
theorem A51.hide {G : Heap} {P : Params} {h : Heap} {f c1 c2 c3 dl c' : Addr} {fd : FuncData} {n : Nat} {ds : List V} (x : A51 G P h f c1 c2 c3 dl c' fd n) (hd : Has h dl (LstR ds)) (ne : dl ≠ f ∧ dl ≠ c1 ∧ dl ≠ c2 ∧ dl ≠ c3) : A51 G P (hideAll h [dl]) f c1 c2 c3 dl c' fd n := by
  have up : ∀ {a P}, Has h a P → a ≠ dl → Has (hideAll h [dl]) a P := fun ⟨ob, e, p⟩ q => ⟨ob, hideAll_get _ e (by simpa using q), p⟩
  obtain ⟨ob, eo, hc⟩ := CodeRec.codeish x.code
  obtain ⟨c, o, vs, t, e', ho, hdd, hv⟩ := x.code
  cases e'
  refine ⟨up x.fn ne.1.symm, ⟨_, o, vs, t, rfl, hideAll_get _ ho ?_, hdd, hv⟩, up x.k1 ne.2.1.symm, up x.k2 ne.2.2.1.symm, up x.k3 ne.2.2.2.symm, x.nt⟩
  intro hm
  obtain ⟨o2, e2, p2⟩ := hd
  rw [← List.mem_singleton.mp hm, eo] at e2; cases e2
  exact LstR.nc _ p2 hc

section
variable {prog : Program} {w : World} {G : Heap} {g : Array GenState} {d : Drawn} {o : OsState} {mg mb : Str → Option Value}
theorem inner51_ok (gg : GG w G mg mb) {f c1 c2 c3 dl c' : Addr} {doc pm ctv : Value} {n : Nat} (hn : n ≤ 63) (h1n : 1 ≤ n) (nef : dl ≠ f ∧ dl ≠ c1 ∧ dl ≠ c2 ∧ dl ≠ c3) :
    ∀ (m x L R : Nat) (ds : List Nat), R - L ≤ m → L < R → R ≤ ds.length → ds.length ≤ 63 → x < 2 ^ (n * (R - L)) → x < 2 ^ 60 → ∀ {A : Around} {h : Heap} {t : Nat} {u0 u1 u2 : Tok} {Q : Value → Shared → Prop}, Glob G h →
      A51 G w.params (hideAll h [dl]) f c1 c2 c3 dl c' (F51 w.params c1 c2 c3 doc pm c' ctv) n → G.get? dl = none → dl ≠ 51 → dl ≠ 58 → Has h dl (LstR (iv ds)) → A.depth + m < recursionLimit →
      (∀ h' t', Kept (hideAll h [dl]) h' → Glob G h' → Has h' dl (LstR (iv (fill n x L R ds))) → Q .none ⟨h', g, d, t' + 1, o⟩) → W prog w A (call (.ref f) [.int x u0, .int L u1, .int R u2]) Q ⟨h, g, d, t + 1, o⟩ := by
  intro m
  induction m with
  | zero => intro x L R ds h1 h2; lia
  | succ m ih =>
    intro x L R ds h1 h2 h3 h4 hx hx2 A h t u0 u1 u2 Q hg X gd d5 d8 hdl hroom k
    obtain ⟨_, ef, rfl⟩ := X.unhide.fn
    refine enterF (ps := [Str.ofString "x", Str.ofString "L", Str.ofString "R"]) (rest := [Str.ofString "mid", Str.ofString "shift", Str.ofString "upper", Str.ofString "lower"]) (names := [Str.ofString "x", Str.ofString "L", Str.ofString "R", Str.ofString "mid", Str.ofString "shift", Str.ofString "upper", Str.ofString "lower"]) (vals := [.int x, .int L, .int R, .unb, .unb, .unb, .unb]) (led := [(dl, LstR (iv ds))]) gg hg ef rfl X.unhide.code (ok51 _ _ _ _ _ _) (by lia) rfl (by kernel_rfl) rfl rfl
      (fun p hp => by rw [List.mem_singleton.mp hp]; exact ⟨gd, d5, d8, fun o => LstR.nc o, hdl⟩) (by simp) fun h0 t0 I => ?_
    have I : Sta G (hideAll h [dl]) (callEnv (F51 w.params c1 c2 c3 doc pm c' ctv) h.objs.size f) [Str.ofString "x", Str.ofString "L", Str.ofString "R", Str.ofString "mid", Str.ofString "shift", Str.ofString "upper", Str.ofString "lower"] [.int x, .int L, .int R, .unb, .unb, .unb, .unb] [(dl, LstR (iv ds))] h0 := I
    have X0 := X.kept I.gB I.keep
    refine xCons ?_
    refine xIf ?_
    refine xTest ?_
    refine xBin ?_
    refine lI I (i := 1) rfl rfl fun _ => ?_
    refine cInt fun _ _ => ?_
    refine iAdd fun _ _ => ?_
    refine lI I (i := 2) rfl rfl fun _ => ?_
    refine iEq ?_
    refine tBool ?_
    by_cases q : ((L : Int) + 1 == (R : Int)) = true
    · refine br_t q ?_
      have e : R = L + 1 := by have : (L : Int) + 1 = R := by simpa using q
                               lia
      subst e
      refine xCons ?_
      refine xAssignSub ?_
      refine lI I (i := 0) rfl rfl fun _ => ?_
      refine lFr X0.k2 fun _ => ?_
      refine lI I (i := 1) rfl rfl fun _ => ?_
      refine sList I (i := 0) rfl (by lia) (by lia) (by simp; lia) fun h1 I1 => ?_
      simp only [setAt] at I1
      refine xCons ?_
      refine xReturn0 ?_
      refine k _ _ I1.keep I1.glob ?_
      rw [← fill_one (by simpa using hx) (by lia)]
      have := I1.has (i := 0) rfl
      rw [Int.toNat_natCast] at this
      simpa [iv, List.map_set] using this
    · refine br_n q ?_
      have e : L + 1 ≠ R := by
        intro e
        exact q (by simp; lia)
      obtain ⟨M, hM, hm⟩ : ∃ M, mid L R = M ∧ M = (L + R) / 2 := ⟨_, rfl, rfl⟩
      have ec : (((M : Nat) : Int) - (L : Int)) = ((M - L : Nat) : Int) := by lia
      have es : (((M : Nat) : Int) - (L : Int)) * (n : Int) = (((M - L) * n : Nat) : Int) := by rw [ec]; simp
      have hs1 : (M - L) * n ≤ 63 * 63 := Nat.mul_le_mul (by lia) hn
      refine xNil ?_
      refine xCons ?_
      refine xAssign ?_
      refine xBin ?_
      refine xBin ?_
      refine lI I (i := 1) rfl rfl fun _ => ?_
      refine lI I (i := 2) rfl rfl fun _ => ?_
      refine iAdd fun _ _ => ?_
      refine cInt fun _ _ => ?_
      refine iShr (by decide) fun _ _ => ?_
      rw [mid_eq, hM]
      refine sI I (i := 3) rfl fun h1 t1 I1 => ?_
      simp only [setAt] at I1
      have X1 := X.kept I.gB I1.keep
      refine xCons ?_
      refine xAssign ?_
      refine xBin ?_
      refine xBin ?_
      refine lI I1 (i := 3) rfl rfl fun _ => ?_
      refine lI I1 (i := 1) rfl rfl fun _ => ?_
      refine iSub fun _ _ => ?_
      refine lFr X1.k1 fun _ => ?_
      refine iMul (mulOk (by lia)) fun _ _ => ?_
      rw [es]
      refine sI I1 (i := 4) rfl fun h2 t2 I2 => ?_
      simp only [setAt] at I2
      refine xCons ?_
      refine xAssign ?_
      refine xBin ?_
      refine lI I2 (i := 0) rfl rfl fun _ => ?_
      refine lI I2 (i := 4) rfl rfl fun _ => ?_
      refine iShr (by lia) fun _ _ => ?_
      rw [Int.toNat_natCast, pow2N, fdivN]
      refine sI I2 (i := 5) rfl fun h3 t3 I3 => ?_
      simp only [setAt] at I3
      refine xCons ?_
      refine xAssign ?_
      refine xBin ?_
      refine lI I3 (i := 0) rfl rfl fun _ => ?_
      refine xBin ?_
      refine lI I3 (i := 5) rfl rfl fun _ => ?_
      refine lI I3 (i := 4) rfl rfl fun _ => ?_
      have bu : x / 2 ^ ((M - L) * n) < 2 ^ 60 := Nat.lt_of_le_of_lt (Nat.div_le_self _ _) hx2
      refine iShl (by lia) (by lia) (by rw [Int.natAbs_natCast]; exact Nat.lt_trans bu (by decide)) fun _ _ => ?_
      refine iXor fun _ _ => ?_
      rw [Int.toNat_natCast, pow2N, show ((x / 2 ^ ((M - L) * n) : Nat) : Int) * ((2 ^ ((M - L) * n) : Nat) : Int) = ((x / 2 ^ ((M - L) * n) * 2 ^ ((M - L) * n) : Nat) : Int) by simp, xor_low]
      refine sI I3 (i := 6) rfl fun h4 t4 I4 => ?_
      simp only [setAt] at I4
      have X4 := X.kept I.gB I4.keep
      refine xCons ?_
      refine xExpr ?_
      refine xCall ?_
      refine lFr X4.k3 fun _ => ?_
      obtain ⟨_, ef4, rfl⟩ := X4.fn
      refine xDef (ob := fo (F51 w.params c1 c2 c3 doc pm c' ctv)) (fd := F51 w.params c1 c2 c3 doc pm c' ctv) rfl ?_
      refine xArg ?_
      refine lI I4 (i := 6) rfl rfl fun _ => ?_
      refine xArg ?_
      refine lI I4 (i := 1) rfl rfl fun _ => ?_
      refine xArg ?_
      refine lI I4 (i := 3) rfl rfl fun _ => ?_
      refine xArgs ⟨ef4, ?_⟩
      have b1 : x % 2 ^ ((M - L) * n) < 2 ^ (n * (M - L)) := by rw [Nat.mul_comm n]; exact Nat.mod_lt _ (Nat.two_pow_pos _)
      have b2 : x / 2 ^ ((M - L) * n) < 2 ^ (n * (R - M)) := by
        rw [Nat.div_lt_iff_lt_mul (Nat.two_pow_pos _), ← Nat.pow_add]
        rw [show n * (R - M) + (M - L) * n = n * (R - L) by rw [Nat.mul_comm (M - L), ← Nat.mul_add]; congr 1; lia]
        exact hx
      refine ih _ L M ds (by lia) (by lia) (by lia) (by assumption) b1 (Nat.lt_of_le_of_lt (Nat.mod_le _ _) hx2) I4.glob (X4.hide (I4.has (i := 0) rfl) nef) gd d5 d8 (I4.has (i := 0) rfl) (by rw [depth_deeper]; lia) fun h5 t5 K5 G5 D5 => ?_
      have I5 := I4.lend (i := 0) rfl K5 G5 D5
      simp only [setAt] at I5
      have X5 := X.kept I.gB I5.keep
      refine xCons ?_
      refine xExpr ?_
      refine xCall ?_
      refine lFr X5.k3 fun _ => ?_
      obtain ⟨_, ef5, rfl⟩ := X5.fn
      refine xDef (ob := fo (F51 w.params c1 c2 c3 doc pm c' ctv)) (fd := F51 w.params c1 c2 c3 doc pm c' ctv) rfl ?_
      refine xArg ?_
      refine lI I5 (i := 5) rfl rfl fun _ => ?_
      refine xArg ?_
      refine lI I5 (i := 3) rfl rfl fun _ => ?_
      refine xArg ?_
      refine lI I5 (i := 2) rfl rfl fun _ => ?_
      refine xArgs ⟨ef5, ?_⟩
      refine ih _ M R _ (by lia) (by lia) (by rw [fill_length]; assumption) (by rw [fill_length]; assumption) b2 bu I5.glob (X5.hide (I5.has (i := 0) rfl) nef) gd d5 d8 (I5.has (i := 0) rfl) (by rw [depth_deeper]; lia) fun h6 t6 K6 G6 D6 => ?_
      have I6 := I5.lend (i := 0) rfl K6 G6 D6
      simp only [setAt] at I6
      rw [fill_split (by lia) (by lia)] at I6
      refine xNil ?_
      exact k _ _ I6.keep I6.glob (I6.has (i := 0) rfl)
end
end Mine
end PartMDig3

section PartMDig4
open PySem PySem.W PyProof.Rows
set_option autoImplicit false
set_option linter.unusedVariables false
namespace Mine
theorem d42 (P : Params) : DefOk P 42 [Str.ofString "a", Str.ofString "b", Str.ofString "n"] [] where
  at_ := by kernel_rfl
  body := by kernel_rfl
  code := by kernel_rfl
  co := by kernel_rfl
  gen := by kernel_rfl
  fn := by kernel_rfl
  cell := by kernel_rfl
  loc := by kernel_rfl
  nod := by decide +kernel
theorem Glob.gnone {G B : Heap} (x : Glob G B) {a : Addr} (e : B.get? a = none) : G.get? a = none := by
  cases q : G.get? a with
  | none => rfl
  | some ob => rw [x.keep _ _ q] at e; cases e
section
variable {prog : Program} {w : World} {A : Around} {G h : Heap} {g : Array GenState} {d : Drawn} {t : Nat} {o : OsState} {mg mb : Str → Option Value}
/-- _div2n1n: always the short way -/
theorem div2n1n_ok {a b n : Nat} {ta tb tn : Tok} {Q : Value → Shared → Prop} (gg : GG w G mg mb) (hg : Glob G h) (hroom : A.depth + 70 < recursionLimit) (ha : a < 2 ^ 60) (h0 : 0 < b) (hb : b < 65536)
    (k : ∀ h' t' r, Kept h h' → Glob G h' → h.get? r = none → Has h' r (Tup [.int (a / b : Nat), .int (a % b : Nat)]) → Q (.ref r) ⟨h', g, d, t' + 1, o⟩) :
    W prog w A (call (.ref 42) [.int a ta, .int b tb, .int n tn]) Q ⟨h, g, d, t + 1, o⟩ := by
  refine enterN (names := [Str.ofString "a", Str.ofString "b", Str.ofString "n"]) (vals := [.int a, .int b, .int n]) gg hg (d42 _) (by lia) rfl (by kernel_rfl) rfl rfl fun h0 t0 I => ?_
  refine xCons ?_
  refine xIf ?_
  refine xTest ?_
  refine xBin ?_
  refine xMeth ?_
  refine lI I (i := 0) rfl rfl fun _ => ?_
  refine mBits ?_
  refine xMeth0 ?_
  refine cBits fun _ _ => ?_
  refine lI I (i := 2) rfl rfl fun _ => ?_
  refine iSub fun _ _ => ?_
  refine gload gg I.glob (n_DIV_LIMIT _) ?_
  refine iLe ?_
  refine tBool ?_
  have hbits : Builtin.Int.intBits (a : Int) ≤ 60 := bits_lt ha
  refine br_t (by simp; lia) ?_
  refine xCons ?_
  refine xReturn ?_
  refine xCall ?_
  refine bload gg I.glob (b_divmod _) ?_
  refine xBuiltin ?_
  refine xArg ?_
  refine lI I (i := 0) rfl rfl fun _ => ?_
  refine xArg ?_
  refine lI I (i := 1) rfl rfl fun _ => ?_
  refine xArgs ?_
  refine cDivmod I (by lia) (noPl (by lia)) fun r h1 t1 I1 => ?_
  rw [fdivN, fmodN] at I1
  exact k _ _ _ I1.keep I1.glob (I1.fresh (i := 0) rfl) (I1.has (i := 0) rfl)

theorem int2digits_ok {a n : Nat} {ta tn : Tok} {Q : Value → Shared → Prop} (gg : GG w G mg mb) (hg : Glob G h) (hroom : A.depth + 70 < recursionLimit) (ha : a < 65536) (hn : n ≤ 16) (h1n : 1 ≤ n)
    (k : ∀ h' t' r, Kept h h' → Glob G h' → h.get? r = none → Has h' r (LstR (iv ((List.range ((Builtin.Int.intBits (a : Int) + n - 1) / n)).map (dig n a)))) → Q (.ref r) ⟨h', g, d, t' + 1, o⟩) :
    W prog w A (call (.ref 56) [.int a ta, .int n tn]) Q ⟨h, g, d, t + 1, o⟩ := by
  refine enterC (lvals := [.int a]) (led := fun L => [(L + 1, Cel (.int n)), (L + 1 + 1, Cel0), (L + 1 + 1 + 1, Cel0)]) gg hg (d56 _) (by lia) rfl (by kernel_rfl) ?_ ?_ ?_ fun h0 t0 I => ?_
  · intro L i x dd q1 q2 q3
    match i with
    | 0 => cases q1; cases q2; exact ⟨ta, by kernel_rfl⟩
    | j + 1 => cases q2
  · intro L p hp
    simp only [List.mem_cons, List.not_mem_nil, or_false] at hp
    rcases hp with rfl | rfl | rfl
    · exact ⟨Str.ofString "n", by kernel_rfl, fun ob e => ⟨tn, e⟩⟩
    · exact ⟨Str.ofString "a_digits", by kernel_rfl, fun ob e => ⟨_, e⟩⟩
    · exact ⟨Str.ofString "inner", by kernel_rfl, fun ob e => ⟨_, e⟩⟩
  · intro L
    simp
  generalize hL : h.objs.size = L at I ⊢
  have hbits : Builtin.Int.intBits (a : Int) ≤ 16 := bits_lt ha
  obtain ⟨len, hlen⟩ : ∃ len, (Builtin.Int.intBits (a : Int) + n - 1) / n = len := ⟨_, rfl⟩
  rw [hlen] at k
  have elen : ((Builtin.Int.intBits (a : Int) : Int) + (n : Int) - 1).fdiv (n : Int) = ((len : Nat) : Int) := by
    rw [show ((Builtin.Int.intBits (a : Int) : Int) + (n : Int) - 1) = ((Builtin.Int.intBits (a : Int) + n - 1 : Nat) : Int) by lia, fdivN, hlen]
  have hdm := Nat.div_add_mod (Builtin.Int.intBits (a : Int) + n - 1) n
  have hml := Nat.mod_lt (Builtin.Int.intBits (a : Int) + n - 1) h1n
  rw [hlen] at hdm
  have hcov : Builtin.Int.intBits (a : Int) ≤ n * len := by lia
  have hlen2 : len ≤ n * len := Nat.le_mul_of_pos_left _ h1n
  refine xCons ?_
  refine xAssign ?_
  refine xBin ?_
  refine xList ?_
  refine xArg ?_
  refine cInt fun _ _ => ?_
  refine xArgs ?_
  refine mkList I rfl fun r1 h1 I1 => ?_
  refine xBin ?_
  refine xBin ?_
  refine xBin ?_
  refine xMeth ?_
  refine lI I1 (i := 0) rfl rfl fun _ => ?_
  refine mBits ?_
  refine xMeth0 ?_
  refine cBits fun _ _ => ?_
  refine lC (I1.has (i := 1) rfl) fun _ => ?_
  refine iAdd fun _ _ => ?_
  refine cInt fun _ _ => ?_
  refine iSub fun _ _ => ?_
  refine lC (I1.has (i := 1) rfl) fun _ => ?_
  refine iDiv (by lia) (noPl (by lia)) fun _ _ => ?_
  rw [elen]
  refine lMul I1 (I1.has (i := 0) rfl) (by lia) (by lia) fun dl h2 I2 => ?_
  rw [Int.toNat_natCast] at I2
  have I2 := (I2.imp (i := 0) (P' := LstR (iv (List.replicate len 0))) rfl fun o p => by
    have := p.r
    simpa [iv, V.of] using this)
  simp only [setAt] at I2
  refine sC I2 (i := 3) rfl (fun _ p => p) fun h3 I3 => ?_
  simp only [setAt] at I3
  have I3 := I3.pick [0, 2, 3, 4] (by decide) rfl
  refine xCons ?_
  refine xNest ?_
  refine mkFn2 gg I3.glob .n51 (by kernel_rfl) (by kernel_rfl) (clos := [(Str.ofString "n", L + 1), (Str.ofString "inner", L + 1 + 1 + 1), (Str.ofString "a_digits", L + 1 + 1)]) (by kernel_rfl) (by kernel_rfl) (by kernel_rfl) fun f c' ctv doc pm h4 t4 K4 G4 fr4 e4 cr4 => ?_
  have e4' : h4.get? f = some (fo (F51 w.params (L + 1) (L + 1 + 1) (L + 1 + 1 + 1) doc pm c' ctv)) := e4.trans (by kernel_rfl)
  have I4 := I3.push K4 G4 fr4 e4' (P := Is (fo (F51 w.params (L + 1) (L + 1 + 1) (L + 1 + 1 + 1) doc pm c' ctv))) rfl
  obtain ⟨B, KB, I4, crB⟩ := I4.code (by
    intro p hp ob e
    simp only [List.mem_cons, List.not_mem_nil, or_false] at hp
    rcases hp with rfl | rfl | rfl | rfl | rfl
    · exact fo_nc ob e
    · exact LstR.nc ob e
    · exact Cel.nc ob e
    · exact Cel.nc ob e
    · exact Cel0.nc ob e) cr4
  refine sC I4 (i := 4) rfl (fun _ p => p) fun h5 I5 => ?_
  simp only [setAt] at I5
  have I5 : Sta G B (cenvC w 56 L) [Str.ofString "a"] [.int a] [(f, Is (fo (F51 w.params (L + 1) (L + 1 + 1) (L + 1 + 1 + 1) doc pm c' ctv))), (dl, LstR (iv (List.replicate len 0))), (L + 1, Cel (.int n)), (L + 1 + 1, Cel (.ref dl)), (L + 1 + 1 + 1, Cel (.ref f))] h5 := I5
  have X5 : A51 G w.params h5 f (L + 1) (L + 1 + 1) (L + 1 + 1 + 1) dl c' (F51 w.params (L + 1) (L + 1 + 1) (L + 1 + 1 + 1) doc pm c' ctv) n := by
    refine ⟨I5.has (i := 0) rfl, CodeRec.kept crB I5.gB I5.keep, I5.has (i := 2) rfl, I5.has (i := 3) rfl, I5.has (i := 4) rfl, ?_⟩
    rintro x (rfl | rfl | rfl | rfl)
    · exact I5.n5 (i := 0) rfl
    · exact I5.n5 (i := 2) rfl
    · exact I5.n5 (i := 3) rfl
    · exact I5.n5 (i := 4) rfl
  have nd := I5.dist
  simp only [List.map_cons, List.map_nil, List.nodup_cons, List.mem_cons, List.not_mem_nil, or_false, not_or] at nd
  have nef : dl ≠ f ∧ dl ≠ L + 1 ∧ dl ≠ L + 1 + 1 ∧ dl ≠ L + 1 + 1 + 1 := ⟨Ne.symm nd.1.1, nd.2.1.1, nd.2.1.2.1, nd.2.1.2.2⟩
  refine xCons ?_
  refine xIf ?_
  refine xTruth ?_
  refine lI I5 (i := 0) rfl rfl fun _ => ?_
  refine tInt ?_
  have fin : ∀ h6 t6, Sta G B (cenvC w 56 L) [Str.ofString "a"] [.int a] [(f, Is (fo (F51 w.params (L + 1) (L + 1 + 1) (L + 1 + 1 + 1) doc pm c' ctv))), (dl, LstR (iv ((List.range len).map (dig n a)))), (L + 1, Cel (.int n)), (L + 1 + 1, Cel (.ref dl)), (L + 1 + 1 + 1, Cel (.ref f))] h6 →
      W prog w (A.deeper (cenvC w 56 L)) (execs ((bodyOf w.params 56).drop 3) (cenvC w 56 L)) (fun fl s' => Q (retOf fl) s') ⟨h6, g, d, t6 + 1, o⟩ := by
    intro h6 t6 I6
    refine xCons ?_
    refine xReturn ?_
    refine lC (I6.has (i := 3) rfl) fun _ => ?_
    exact k _ _ _ (KB.trans I6.keep) I6.glob (KB.free I6.gB (I6.fresh (i := 1) rfl)) (I6.has (i := 1) rfl)
  by_cases q : ((a : Int) != 0) = true
  · refine br_t q ?_
    have ha0 : 0 < a := by
      have : (a : Int) ≠ 0 := by simpa using q
      lia
    have hb0 := bits_pos ha0
    have hl0 : 0 < len := by
      rcases Nat.eq_zero_or_pos len with e | e
      · rw [e] at hcov; lia
      · exact e
    refine xCons ?_
    refine xExpr ?_
    refine xCall ?_
    refine lC (I5.has (i := 4) rfl) fun _ => ?_
    obtain ⟨_, ef5, rfl⟩ := X5.fn
    refine xDef (ob := fo (F51 w.params (L + 1) (L + 1 + 1) (L + 1 + 1 + 1) doc pm c' ctv)) (fd := F51 w.params (L + 1) (L + 1 + 1) (L + 1 + 1 + 1) doc pm c' ctv) rfl ?_
    refine xArg ?_
    refine lI I5 (i := 0) rfl rfl fun _ => ?_
    refine xArg ?_
    refine cInt fun _ _ => ?_
    refine xArg ?_
    refine xCall ?_
    refine bload gg I5.glob (b_len _) ?_
    refine xBuiltin ?_
    refine xArg ?_
    refine lC (I5.has (i := 3) rfl) fun _ => ?_
    refine xArgs ?_
    refine cLen (I5.has (i := 1) rfl) (by simp; lia) fun _ _ => ?_
    refine xArgs ⟨ef5, ?_⟩
    have el : ((iv (List.replicate len 0)).length : Int) = ((len : Nat) : Int) := by simp
    rw [el]
    have hab : a < 2 ^ (n * (len - 0)) := Nat.lt_of_lt_of_le (lt_bits a) (Nat.pow_le_pow_right (by decide) (by simpa using hcov))
    refine inner51_ok gg (by lia) h1n nef 63 a 0 len (List.replicate len 0) (by lia) hl0 (by simp) (by simp; lia) hab (by lia) I5.glob (X5.hide (I5.has (i := 1) rfl) nef) (I5.gB.gnone (I5.fresh (i := 1) rfl)) (I5.n5 (i := 1) rfl).1 (I5.n5 (i := 1) rfl).2 (I5.has (i := 1) rfl) (by rw [depth_deeper]; lia) fun h6 t6 K6 G6 D6 => ?_
    have I6 := I5.lend (i := 1) rfl K6 G6 D6
    simp only [setAt] at I6
    rw [fill_all] at I6
    refine xNil ?_
    exact fin _ _ I6
  · refine br_n q ?_
    have ha0 : a = 0 := by
      have : ¬ (a : Int) ≠ 0 := by simpa using q
      lia
    subst ha0
    have hz : Builtin.Int.intBits ((0 : Nat) : Int) = 0 := by decide +kernel
    rw [hz] at hlen
    have el : len = 0 := by rw [← hlen]; exact Nat.div_eq_of_lt (by lia)
    subst el
    refine xNil ?_
    exact fin _ _ I5
end
end Mine
end PartMDig4

section PartMDiv
open PySem PySem.W PyProof.Rows
set_option autoImplicit false
set_option linter.unusedVariables false
namespace Mine
theorem d70 (P : Params) : DefOk P 70 [Str.ofString "a", Str.ofString "b"] [Str.ofString "n", Str.ofString "a_digits", Str.ofString "r", Str.ofString "q_digits", Str.ofString "a_digit", Str.ofString "q_digit", Str.ofString "q"] where
  at_ := by kernel_rfl
  body := by kernel_rfl
  code := by kernel_rfl
  co := by kernel_rfl
  gen := by kernel_rfl
  fn := by kernel_rfl
  cell := by kernel_rfl
  loc := by kernel_rfl
  nod := by decide +kernel
theorem d77 (P : Params) : DefOk P 77 [Str.ofString "a", Str.ofString "b"] [] where
  at_ := by kernel_rfl
  body := by kernel_rfl
  code := by kernel_rfl
  co := by kernel_rfl
  gen := by kernel_rfl
  fn := by kernel_rfl
  cell := by kernel_rfl
  loc := by kernel_rfl
  nod := by decide +kernel

/-- the turn of the division, digit by digit -/
theorem div_turn {a b n len i r Q : Nat} (hb : b < 2 ^ n) (h0 : 0 < b) (hi : i < len) (h : a / 2 ^ (n * (len - i)) = b * Q + r) (hr : r < b) :
    a / 2 ^ (n * (len - (i + 1))) = b * ((r * 2 ^ n + dig n a (len - 1 - i)) / b + 2 ^ n * Q) + (r * 2 ^ n + dig n a (len - 1 - i)) % b ∧ (r * 2 ^ n + dig n a (len - 1 - i)) / b < 2 ^ n := by
  have e1 : a / 2 ^ (n * (len - i)) = a / 2 ^ (n * (len - (i + 1))) / 2 ^ n := by
    rw [Nat.div_div_eq_div_mul, ← Nat.pow_add]
    congr 2
    rw [show len - i = (len - (i + 1)) + 1 by lia, Nat.mul_succ]
  have e2 : dig n a (len - 1 - i) = a / 2 ^ (n * (len - (i + 1))) % 2 ^ n := by
    unfold dig; rw [show len - 1 - i = len - (i + 1) by lia]
  rw [e2]
  generalize a / 2 ^ (n * (len - (i + 1))) = T at *
  rw [e1] at h
  have h1 := Nat.div_add_mod T (2 ^ n)
  have h2 : T % 2 ^ n < 2 ^ n := Nat.mod_lt _ (Nat.two_pow_pos n)
  generalize T % 2 ^ n = z at *
  rw [h] at h1
  generalize 2 ^ n = p at *
  have h3 := Nat.div_add_mod (r * p + z) b
  constructor
  · rw [Nat.mul_add, Nat.add_right_comm, h3, ← h1, Nat.mul_add]
    have : p * (b * Q) = b * (p * Q) := Nat.mul_left_comm _ _ _
    rw [this, Nat.mul_comm r p]
    lia
  · rw [Nat.div_lt_iff_lt_mul h0]
    have h4 : (r + 1) * p ≤ b * p := Nat.mul_le_mul_right _ hr
    rw [Nat.add_mul] at h4
    rw [Nat.mul_comm p b]
    lia

section
variable {prog : Program} {w : World} {A : Around} {G h : Heap} {g : Array GenState} {d : Drawn} {t : Nat} {o : OsState} {mg mb : Str → Option Value}
theorem divmod_pos_ok {a b : Nat} {ta tb : Tok} {Q : Value → Shared → Prop} (gg : GG w G mg mb) (hg : Glob G h) (hroom : A.depth + 80 < recursionLimit) (hh : A.handled = none) (ha : a < 65536) (h0 : 0 < b) (hb : b < 65536)
    (k : ∀ h' t' r, Kept h h' → Glob G h' → h.get? r = none → Has h' r (Tup [.int (a / b : Nat), .int (a % b : Nat)]) → Q (.ref r) ⟨h', g, d, t' + 1, o⟩) :
    W prog w A (call (.ref 70) [.int a ta, .int b tb]) Q ⟨h, g, d, t + 1, o⟩ := by
  refine enterN (names := [Str.ofString "a", Str.ofString "b", Str.ofString "n", Str.ofString "a_digits", Str.ofString "r", Str.ofString "q_digits", Str.ofString "a_digit", Str.ofString "q_digit", Str.ofString "q"]) (vals := [.int a, .int b, .unb, .unb, .unb, .unb, .unb, .unb, .unb]) gg hg (d70 _) (by lia) rfl (by kernel_rfl) rfl rfl fun hp0 t0 I => ?_
  have hbits : Builtin.Int.intBits (b : Int) ≤ 16 := bits_lt hb
  have hbits0 := bits_pos h0
  have hblt := lt_bits b
  have habits : Builtin.Int.intBits (a : Int) ≤ 16 := bits_lt ha
  have halt := lt_bits a
  obtain ⟨n, hn⟩ : ∃ n, Builtin.Int.intBits (b : Int) = n := ⟨_, rfl⟩
  rw [hn] at hbits hbits0 hblt
  obtain ⟨len, hlen⟩ : ∃ len, (Builtin.Int.intBits (a : Int) + n - 1) / n = len := ⟨_, rfl⟩
  have hdm := Nat.div_add_mod (Builtin.Int.intBits (a : Int) + n - 1) n
  have hml := Nat.mod_lt (Builtin.Int.intBits (a : Int) + n - 1) hbits0
  rw [hlen] at hdm
  have hcov : Builtin.Int.intBits (a : Int) ≤ n * len := by lia
  have hlen2 : len ≤ n * len := Nat.le_mul_of_pos_left _ hbits0
  have hab : a < 2 ^ (n * len) := Nat.lt_of_lt_of_le halt (Nat.pow_le_pow_right (by decide) hcov)
  have hp16 : 2 ^ n ≤ 2 ^ 16 := Nat.pow_le_pow_right (by decide) hbits
  refine xCons ?_
  refine xAssign ?_
  refine xMeth ?_
  refine lI I (i := 1) rfl rfl fun _ => ?_
  refine mBits ?_
  refine xMeth0 ?_
  refine cBits fun _ _ => ?_
  rw [hn]
  refine sI I (i := 2) rfl fun h1 t1 I1 => ?_
  simp only [setAt] at I1
  refine xCons ?_
  refine xAssign ?_
  refine xCall ?_
  refine gload gg I1.glob (n_int2digits _) ?_
  refine xDef (ob := fnObj w.params 56) rfl ?_
  refine xArg ?_
  refine lI I1 (i := 0) rfl rfl fun _ => ?_
  refine xArg ?_
  refine lI I1 (i := 2) rfl rfl fun _ => ?_
  refine xArgs ⟨I1.glob.keep _ _ (gg.X 56 _ (by kernel_rfl)), ?_⟩
  refine int2digits_ok gg I1.glob (by rw [depth_deeper]; lia) ha hbits hbits0 fun h2 t2 ad K2 G2 f2 x2 => ?_
  rw [hlen] at x2
  obtain ⟨oa, ea, pa⟩ := x2
  have I2 := I1.push K2 G2 f2 ea pa
  refine sR I2 (i := 3) rfl fun h3 t3 I3 => ?_
  simp only [setAt] at I3
  refine xCons ?_
  refine xAssign ?_
  refine cInt fun _ _ => ?_
  refine sI I3 (i := 4) rfl fun h4 t4 I4 => ?_
  simp only [setAt] at I4
  refine xCons ?_
  refine xAssign ?_
  refine xList ?_
  refine xArgs ?_
  refine mkList I4 rfl fun qd h5 I5 => ?_
  refine sR I5 (i := 5) rfl fun h6 t6 I6 => ?_
  simp only [setAt] at I6
  refine xCons ?_
  refine xFor ?_
  refine xCall ?_
  refine bload gg I6.glob (b_reversed _) ?_
  refine xType ?_
  refine xArg ?_
  refine lR I6 (i := 3) rfl rfl ?_
  refine xArgs ?_
  refine cRev I6 (I6.has (i := 1) rfl) fun it h7 I7 => ?_
  refine pIterV (I7.has (i := 0) rfl) ?_
  have hl : (iv ((List.range len).map (dig n a))).length = len := by simp
  refine loop (ix := 6) (iterV (A := A.deeper _) hh it ad (iv ((List.range len).map (dig n a))) (by intro v hv; obtain ⟨z, _, rfl⟩ := List.mem_map.mp hv; trivial)) rfl
    (fun i vs ld => ∃ (qs : List Nat) (r : Nat) (v1 v2 v3 : V), vs = [.int a, .int b, .int n, .ref ad, .int r, .ref qd, v1, v2, v3] ∧ ld = [(qd, Lst (iv qs)), (ad, LstR (iv ((List.range len).map (dig n a))))] ∧ qs.length = i ∧ (∀ x ∈ qs, x < 2 ^ n) ∧ r < b ∧ a / 2 ^ (n * (len - i)) = b * d2i n qs.reverse + r)
    I7 ⟨[], 0, _, _, _, rfl, rfl, rfl, by simp, h0, by simp [d2i, Nat.div_eq_of_lt hab]⟩ ?_ ?_ ?_
  · rintro i vs ld h' ⟨qs, r, v1, v2, v3, rfl, rfl, _⟩ J
    exact J.has (i := 1) rfl
  · rintro i v vs ld h' t' hi ⟨_, hv⟩ ⟨qs, r, v1, v2, v3, rfl, rfl, hq, hqb, hr, hinv⟩ J
    refine W.gen fun QQ hQQ => ?_
    simp only [setAt] at J
    rw [hl] at hi
    have ev : v = V.int (dig n a (len - 1 - i) : Nat) := by
      rw [hl] at hv
      simp only [iv, List.map_map] at hv
      rw [List.getElem?_map, List.getElem?_range (by lia)] at hv
      exact (Option.some.inj hv).symm
    subst ev
    have T := div_turn hblt h0 hi hinv hr
    have hz := dig_lt n a (len - 1 - i)
    have hx : r * 2 ^ n + dig n a (len - 1 - i) < 2 ^ 60 := by
      have h4 : r * 2 ^ n ≤ 65536 * 2 ^ 16 := Nat.mul_le_mul (by lia) hp16
      lia
    refine xCons ?_
    refine xAssignT ?_
    refine xCall ?_
    refine gload gg J.glob (n_div2n1n _) ?_
    refine xDef (ob := fnObj w.params 42) rfl ?_
    refine xArg ?_
    refine xBin ?_
    refine xBin ?_
    refine lI J (i := 4) rfl rfl fun _ => ?_
    refine lI J (i := 2) rfl rfl fun _ => ?_
    refine iShl (by lia) (by lia) (by lia) fun _ _ => ?_
    refine lI J (i := 6) rfl rfl fun _ => ?_
    refine iAdd fun _ _ => ?_
    rw [Int.toNat_natCast, pow2N, show ((r : Nat) : Int) * ((2 ^ n : Nat) : Int) + ((dig n a (len - 1 - i) : Nat) : Int) = ((r * 2 ^ n + dig n a (len - 1 - i) : Nat) : Int) by simp]
    refine xArg ?_
    refine lI J (i := 1) rfl rfl fun _ => ?_
    refine xArg ?_
    refine lI J (i := 2) rfl rfl fun _ => ?_
    refine xArgs ⟨J.glob.keep _ _ (gg.X 42 _ (by kernel_rfl)), ?_⟩
    refine div2n1n_ok gg J.glob (by rw [depth_deeper]; lia) hx h0 hb fun h8 t8 r8 K8 G8 f8 x8 => ?_
    have J8 := J.back K8 G8
    refine aTup2 (i1 := 7) (i2 := 4) hh J8 x8 trivial trivial rfl rfl fun h9 t9 J9 => ?_
    simp only [setAt] at J9
    refine xCons ?_
    refine xExpr ?_
    refine xMeth ?_
    refine lR J9 (i := 5) rfl rfl ?_
    refine mAppend (J9.has (i := 1) rfl) ?_
    refine xMeth1 ?_
    refine xArg ?_
    refine lI J9 (i := 7) rfl rfl fun _ => ?_
    refine xArgs ?_
    refine cAppend J9 (i := 1) rfl (by simp [sizeLine]; lia) fun h10 J10 => ?_
    simp only [setAt] at J10
    refine xNil ?_
    refine hQQ _ _ ⟨h10, _, _, _, rfl, J10, qs ++ [(r * 2 ^ n + dig n a (len - 1 - i)) / b], (r * 2 ^ n + dig n a (len - 1 - i)) % b, _, _, _, rfl, by simp [iv, V.of], by simp [hq], ?_, Nat.mod_lt _ h0, ?_⟩
    · intro x hx
      rcases List.mem_append.mp hx with hx | hx
      · exact hqb x hx
      · rw [List.mem_singleton.mp hx]; exact T.2
    · rw [List.reverse_append, List.reverse_singleton, List.singleton_append, d2i]
      exact T.1
  · rintro vs ld h' t' ⟨qs, r, v1, v2, v3, rfl, rfl, hq, hqb, hr, hinv⟩ J
    rw [hl] at hq hinv
    rw [Nat.sub_self, Nat.mul_zero, Nat.pow_zero, Nat.div_one] at hinv
    refine xCons ?_
    refine xExpr ?_
    refine xMeth ?_
    refine lR J (i := 5) rfl rfl ?_
    refine mReverse (J.has (i := 0) rfl) ?_
    refine xMeth0 ?_
    refine cReverse J (i := 0) rfl (by simp [sizeLine]; lia) fun h8 J8 => ?_
    simp only [setAt] at J8
    have J8 := J8.imp (i := 0) (P' := LstR (iv qs.reverse)) rfl fun o p => by
      have := p.r
      simpa [iv] using this
    simp only [setAt] at J8
    refine xCons ?_
    refine xAssign ?_
    refine xCall ?_
    refine gload gg J8.glob (n_digits2int _) ?_
    refine xDef (ob := fnObj w.params 63) rfl ?_
    refine xArg ?_
    refine lR J8 (i := 5) rfl rfl ?_
    refine xArg ?_
    refine lI J8 (i := 2) rfl rfl fun _ => ?_
    refine xArgs ⟨J8.glob.keep _ _ (gg.X 63 _ (by kernel_rfl)), ?_⟩
    refine digits2int_ok gg J8.glob (by rw [depth_deeper]; lia) (J8.has (i := 0) rfl) (J8.n5 (i := 0) rfl) (by simpa using hqb) (by rw [List.length_reverse, hq]; lia) (by rw [List.length_reverse, hq]; lia) (by lia) fun h9 t9 u9 K9 G9 => ?_
    have J9 := J8.back K9 G9
    refine sI J9 (i := 8) rfl fun h10 t10 J10 => ?_
    simp only [setAt] at J10
    refine xCons ?_
    refine xReturn ?_
    refine xTuple ?_
    refine xArg ?_
    refine lI J10 (i := 8) rfl rfl fun _ => ?_
    refine xArg ?_
    refine lI J10 (i := 4) rfl rfl fun _ => ?_
    refine xArgs ?_
    refine mkTuple J10 rfl fun r11 h11 J11 => ?_
    have eq : a / b = d2i n qs.reverse := by
      rw [hinv, Nat.mul_add_div h0, Nat.div_eq_of_lt hr]; lia
    have er : a % b = r := by
      rw [hinv, Nat.mul_add_mod, Nat.mod_eq_of_lt hr]
    rw [eq, er] at k
    exact k _ _ _ J11.keep J11.glob (J11.fresh (i := 0) rfl) (J11.has (i := 0) rfl)

theorem int_divmod_ok {a b : Nat} {ta tb : Tok} {Q : Value → Shared → Prop} (gg : GG w G mg mb) (hg : Glob G h) (hroom : A.depth + 90 < recursionLimit) (hh : A.handled = none) (ha : a < 65536) (h0 : 0 < b) (hb : b < 65536)
    (k : ∀ h' t' r, Kept h h' → Glob G h' → h.get? r = none → Has h' r (Tup [.int (a / b : Nat), .int (a % b : Nat)]) → Q (.ref r) ⟨h', g, d, t' + 1, o⟩) :
    W prog w A (call (.ref 77) [.int a ta, .int b tb]) Q ⟨h, g, d, t + 1, o⟩ := by
  refine enterN (names := [Str.ofString "a", Str.ofString "b"]) (vals := [.int a, .int b]) gg hg (d77 _) (by lia) rfl (by kernel_rfl) rfl rfl fun hp0 t0 I => ?_
  refine xCons ?_
  refine xIf ?_
  refine xTest ?_
  refine lI I (i := 1) rfl rfl fun _ => ?_
  refine cInt fun _ _ => ?_
  refine iEq ?_
  refine tBool ?_
  refine br_f (by simp; lia) ?_
  refine xCons ?_
  refine xIf ?_
  refine xTest ?_
  refine lI I (i := 1) rfl rfl fun _ => ?_
  refine cInt fun _ _ => ?_
  refine iLt ?_
  refine tBool ?_
  refine br_f (by simp) ?_
  refine xCons ?_
  refine xIf ?_
  refine xTest ?_
  refine lI I (i := 0) rfl rfl fun _ => ?_
  refine cInt fun _ _ => ?_
  refine iLt ?_
  refine tBool ?_
  refine br_f (by simp) ?_
  refine xCons ?_
  refine xReturn ?_
  refine xCall ?_
  refine gload gg I.glob (n_divmod_pos _) ?_
  refine xDef (ob := fnObj w.params 70) rfl ?_
  refine xArg ?_
  refine lI I (i := 0) rfl rfl fun _ => ?_
  refine xArg ?_
  refine lI I (i := 1) rfl rfl fun _ => ?_
  refine xArgs ⟨I.glob.keep _ _ (gg.X 70 _ (by kernel_rfl)), ?_⟩
  refine divmod_pos_ok gg I.glob (by rw [depth_deeper]; lia) hh ha h0 hb fun h1 t1 r1 K1 G1 f1 x1 => ?_
  have I1 := I.back K1 G1
  exact k _ _ _ I1.keep I1.glob (I.free f1) x1
end
end Mine
end PartMDiv

section PartMSetP
open PySem PySem.W PyProof.Rows
set_option autoImplicit false
set_option linter.unusedVariables false
namespace Mine

/-- the laying of a new key, upon the hashes alone -/
def layP (t : SetTable) (hs : Array Int) (h : Int) : Array Int × SetTable × Bool × Bool :=
  match t.freeSlot h with
  | some (slot, wasDummy) =>
    let (t', p) := t.put slot
    let es' := SetTable.insertAt hs p h
    (es', t'.orStandIn es'.size, wasDummy, !t'.fits es'.size)
  | none => (hs.push h, t.standIn (hs.size + 1), false, true)
def relayP (t : SetTable) (hs : Array Int) (wanted : Nat) : Array Int × SetTable × Bool :=
  match t.relaid hs wanted with
  | some (t', order) =>
    let es' := order.filterMap (hs[·]?)
    if coversAll order hs.size && t'.fits es'.size then (es', t', false) else (hs, t.standIn hs.size, true)
  | none => (hs, t.standIn hs.size, true)

theorem insertAt_map {α β : Type} (f : α → β) (xs : Array α) (p : Nat) (x : α) : (SetTable.insertAt xs p x).map f = SetTable.insertAt (xs.map f) p (f x) := by
  simp [SetTable.insertAt]
theorem layNew_P (t : SetTable) (es : Array (Int × Value)) (h : Int) (x : Value) : layP t (es.map (·.1)) h = ((layNew t es h x).1.map (·.1), (layNew t es h x).2) := by
  unfold layP layNew
  cases t.freeSlot h with
  | none => simp
  | some q =>
    obtain ⟨slot, wd⟩ := q
    have hz : ∀ p, (SetTable.insertAt (es.map (·.1)) p h).size = (SetTable.insertAt es p (h, x)).size := fun p => by
      rw [← insertAt_map (·.1) es p (h, x), Array.size_map]
    simp only [insertAt_map, hz]
theorem relayAll_P (t : SetTable) (es : Array (Int × Value)) (wanted : Nat) : relayP t (es.map (·.1)) wanted = ((relayAll t es wanted).1.map (·.1), (relayAll t es wanted).2) := by
  unfold relayP relayAll
  cases t.relaid (es.map (·.1)) wanted with
  | none => simp
  | some q =>
    obtain ⟨t', order⟩ := q
    have e : order.filterMap (fun i => (es.map (·.1))[i]?) = (order.filterMap (fun i => es[i]?)).map (·.1) := by
      rw [Array.map_filterMap]
      congr 1
      funext i
      simp
    simp only [e, Array.size_map]
    split <;> rfl

def addP (st : Array Int × SetTable) (h : Int) : Array Int × SetTable :=
  if st.1.toList.contains h then st else
    let L := layP st.2 st.1 h
    if (!L.2.2.1 && L.2.1.tooFull) = true then
      let M := relayP L.2.1 L.1 (SetTable.grown L.1.size)
      (M.1, M.2.1)
    else (L.1, L.2.1)
def setP (led : Bool) (ns : List Int) : Array Int × SetTable := ns.foldl addP (#[], .fresh 0 0 led)

/-- the places in their order, as the iterator asks for them -/
def slotAt (place : Array Nat) (i : Nat) : Nat := match i with
  | 0 => 0
  | i + 1 => place.getD i 0 + 1
def goodP (st : Array Int × SetTable) : Bool := st.2.plain && st.2.led && (List.range (st.2.place.size + 1)).all fun i => SetTable.below st.2.place (slotAt st.2.place i) == i


theorem below_eq {xs : Array Nat} {p j : Nat} (hp : p ≤ xs.size) (h1 : ∀ i, i < p → xs.getD i 0 < j) (h2 : ∀ i, p ≤ i → i < xs.size → j ≤ xs.getD i 0) : SetTable.below xs j = p := by
  have key : ∀ fuel lo hi, lo ≤ p → p ≤ hi → hi ≤ xs.size → hi - lo ≤ fuel → SetTable.below.go xs j fuel lo hi = p := by
    intro fuel
    induction fuel with
    | zero => intro lo hi a b c d; show lo = p; lia
    | succ fuel ih =>
      intro lo hi a b c d
      unfold SetTable.below.go
      by_cases q : lo < hi
      · rw [if_pos q]
        dsimp only
        have hm : (lo + hi) / 2 < xs.size := by lia
        have e : xs.getD ((lo + hi) / 2) j = xs.getD ((lo + hi) / 2) 0 := by simp [Array.getD, hm]
        rw [e]
        by_cases r : xs.getD ((lo + hi) / 2) 0 < j
        · rw [if_pos r]
          refine ih _ _ ?_ b c (by lia)
          rcases Nat.lt_or_ge ((lo + hi) / 2) p with z | z
          · exact z
          · exact absurd (h2 _ z hm) (by lia)
        · rw [if_neg r]
          refine ih _ _ a ?_ (by lia) (by lia)
          rcases Nat.lt_or_ge ((lo + hi) / 2) p with z | z
          · exact absurd (h1 _ z) r
          · exact z
      · rw [if_neg q]; lia
  exact key xs.size 0 xs.size (Nat.zero_le _) hp (Nat.le_refl _) (by lia)

theorem getD_arr {l : List Nat} {k : Nat} (h : k < l.length) : l.toArray.getD k 0 = l[k] := by simp [Array.getD, h]
def stL (l : List Nat) (big : Bool) : Array Int × SetTable :=
  ((l.map fun (i : Nat) => (i : Int)).toArray, { mask := if big then 31 else 7, place := l.toArray, dummies := #[], finger := 0, led := true, moves := if big then 1 else 0, plain := true })
theorem good_stL {l : List Nat} {big : Bool} (h : l.Pairwise (· < ·)) : goodP (stL l big) = true := by
  unfold goodP stL
  simp only [Bool.and_self, Bool.true_and, List.all_eq_true, List.mem_range, beq_iff_eq]
  intro i hi
  have hi' : i ≤ l.length := by simpa using Nat.le_of_lt_succ hi
  refine below_eq (by simpa using hi') ?_ ?_
  · intro k hk
    cases i with
    | zero => lia
    | succ i =>
      show l.toArray.getD k 0 < l.toArray.getD i 0 + 1
      have hk1 : k < l.length := by lia
      have hi1 : i < l.length := by lia
      rw [getD_arr hk1, getD_arr hi1]
      rcases Nat.lt_or_ge k i with z | z
      · exact Nat.lt_succ_of_lt (List.pairwise_iff_getElem.mp h k i hk1 hi1 z)
      · have : k = i := by lia
        subst this; exact Nat.lt_succ_self _
  · intro k hk hk2
    cases i with
    | zero => exact Nat.zero_le _
    | succ i =>
      show l.toArray.getD i 0 + 1 ≤ l.toArray.getD k 0
      have hk1 : k < l.length := by simpa using hk2
      have hi1 : i < l.length := by lia
      rw [getD_arr hk1, getD_arr hi1]
      exact List.pairwise_iff_getElem.mp h i k hi1 hk1 (by lia)

/-- the lists of five that rise below eight -/
def fives : List (List Nat) := (List.range 8).flatMap fun a => ((List.range 8).filter (a < ·)).flatMap fun b => ((List.range 8).filter (b < ·)).flatMap fun c =>
  ((List.range 8).filter (c < ·)).flatMap fun d => ((List.range 8).filter (d < ·)).map fun e => [a, b, c, d, e]
theorem five_mem : ∀ {l : List Nat}, l.Pairwise (· < ·) → (∀ x ∈ l, x < 8) → l.length = 5 → l ∈ fives := by
  intro l h1 h2 h3
  match l, h3 with
  | [a, b, c, d, e], _ =>
    simp only [List.pairwise_cons, List.mem_cons, List.not_mem_nil, or_false, forall_eq_or_imp, forall_eq] at h1
    simp only [List.mem_cons, List.not_mem_nil, or_false, forall_eq_or_imp, forall_eq] at h2
    simp only [fives, List.mem_flatMap, List.mem_filter, List.mem_range, decide_eq_true_eq, List.mem_map]
    exact ⟨a, h2.1, b, ⟨h2.2.1, h1.1.1⟩, c, ⟨h2.2.2.1, h1.2.1.1⟩, d, ⟨h2.2.2.2.1, h1.2.2.1.1⟩, e, ⟨h2.2.2.2.2, h1.2.2.2.1⟩, rfl⟩
theorem relay_five : ∀ l ∈ fives, relayP { mask := 7, place := l.toArray, dummies := #[], finger := 0, led := true, moves := 0, plain := true } (l.map fun (i : Nat) => (i : Int)).toArray 20 = ((stL l true).1, (stL l true).2, false) := by decide +kernel

theorem sorted_ins {l : List Nat} (h : l.Pairwise (· < ·)) {x : Nat} (hx : x ∉ l) : ∃ a b, l = a ++ b ∧ (∀ y ∈ a, y < x) ∧ (∀ y ∈ b, x < y) ∧ (a ++ x :: b).Pairwise (· < ·) := by
  induction l with
  | nil => exact ⟨[], [], rfl, by simp, by simp, by simp⟩
  | cons z r ih =>
    rw [List.pairwise_cons] at h
    simp only [List.mem_cons, not_or] at hx
    rcases Nat.lt_or_ge z x with q | q
    · obtain ⟨a, b, rfl, h1, h2, h3⟩ := ih h.2 hx.2
      refine ⟨z :: a, b, rfl, ?_, h2, ?_⟩
      · intro y hy
        rcases List.mem_cons.mp hy with rfl | hy
        · exact q
        · exact h1 y hy
      · rw [List.cons_append, List.pairwise_cons]
        refine ⟨fun y hy => ?_, h3⟩
        simp only [List.mem_append, List.mem_cons] at hy
        rcases hy with hy | rfl | hy
        · exact h.1 y (List.mem_append_left _ hy)
        · exact q
        · exact h.1 y (List.mem_append_right _ hy)
    · have hzx : x < z := by lia
      refine ⟨[], z :: r, rfl, by simp, ?_, ?_⟩
      · intro y hy
        rcases List.mem_cons.mp hy with rfl | hy
        · exact hzx
        · exact Nat.lt_trans hzx (h.1 y hy)
      · rw [List.nil_append, List.pairwise_cons, List.pairwise_cons]
        refine ⟨fun y hy => ?_, h⟩
        rcases List.mem_cons.mp hy with rfl | hy
        · exact hzx
        · exact Nat.lt_trans hzx (h.1 y hy)

theorem below_ins {a b : List Nat} {x : Nat} (h1 : ∀ y ∈ a, y < x) (h2 : ∀ y ∈ b, x < y) : SetTable.below (a ++ b).toArray x = a.length := by
  refine below_eq (by simp) ?_ ?_
  · intro i hi
    rw [getD_arr (by simp; lia), List.getElem_append_left hi]
    exact h1 _ (List.getElem_mem _)
  · intro i hi hi2
    have hi3 : i < (a ++ b).length := by simpa using hi2
    rw [getD_arr hi3, List.getElem_append_right hi]
    exact Nat.le_of_lt (h2 _ (List.getElem_mem _))

theorem free_stL {a b : List Nat} {x : Nat} {big : Bool} (h1 : ∀ y ∈ a, y < x) (h2 : ∀ y ∈ b, x < y) (hx : x < 8) : (stL (a ++ b) big).2.freeSlot (x : Int) = some (x, false) := by
  have hslot : (stL (a ++ b) big).2.slot x = .empty := by
    unfold SetTable.slot
    have e : SetTable.below (stL (a ++ b) big).2.place x = a.length := below_ins h1 h2
    rw [e]
    have ne : ((stL (a ++ b) big).2.place[a.length]? == some x) = false := by
      show ((a ++ b).toArray[a.length]? == some x) = false
      rw [List.getElem?_toArray, List.getElem?_append_right (Nat.le_refl _), Nat.sub_self]
      cases b with
      | nil => rfl
      | cons z r =>
        have := h2 z (.head _)
        simp; lia
    dsimp only
    rw [ne]
    rfl
  have hst : (stL (a ++ b) big).2.probeStart (x : Int) = { j := x, more := SetTable.runEnd (stL (a ++ b) big).2.mask x - x, i := x, perturb := x, dummy := none } := by
    have hb : SetTable.bits (x : Int) = x := by unfold SetTable.bits; lia
    have hm : x % ((stL (a ++ b) big).2.mask + 1) = x := by
      cases big
      · exact Nat.mod_eq_of_lt (show x < 8 from hx)
      · exact Nat.mod_eq_of_lt (show x < 32 by lia)
    unfold SetTable.probeStart
    rw [hb, hm]
  unfold SetTable.freeSlot
  rw [hst]
  have hp : (stL (a ++ b) big).2.probe (fun _ => (x : Int) + 1) (x : Int) { j := x, more := SetTable.runEnd (stL (a ++ b) big).2.mask x - x, i := x, perturb := x, dummy := none } = some (.empty x none) := by
    unfold SetTable.probe
    have ht : ∃ k, 10 * SetTable.turns (stL (a ++ b) big).2.mask = k + 1 := ⟨10 * SetTable.turns (stL (a ++ b) big).2.mask - 1, by unfold SetTable.turns; lia⟩
    obtain ⟨k, hk⟩ := ht
    rw [hk]
    unfold SetTable.probe.go
    rw [hslot]
  rw [hp]
  rfl

theorem addP_stL {l : List Nat} {x : Nat} {big : Bool} (h : l.Pairwise (· < ·)) (h8 : ∀ y ∈ l, y < 8) (hx : x < 8) (hbig : big = true ∨ l.length ≤ 4) (hlen : l.length ≤ 7 ∨ x ∈ l) :
    ∃ l' big', addP (stL l big) (x : Int) = stL l' big' ∧ l'.Pairwise (· < ·) ∧ (∀ y ∈ l', y < 8) ∧ (big' = true ∨ l'.length ≤ 4) ∧ ∀ y, y ∈ l' ↔ y ∈ l ∨ y = x := by
  by_cases hm : x ∈ l
  · refine ⟨l, big, ?_, h, h8, hbig, fun y => ⟨.inl, fun q => q.elim id fun e => e ▸ hm⟩⟩
    unfold addP
    rw [if_pos]
    simp only [stL, List.contains_iff_mem, List.mem_map]
    exact ⟨x, hm, rfl⟩
  · obtain ⟨a, b, rfl, h1, h2, h3⟩ := sorted_ins h hm
    have hl7 : (a ++ b).length ≤ 7 := hlen.resolve_right hm
    have mem : ∀ y, y ∈ a ++ x :: b ↔ y ∈ a ++ b ∨ y = x := fun y => by
      simp only [List.mem_append, List.mem_cons]
      constructor
      · rintro (q | q | q) <;> simp [q]
      · rintro ((q | q) | q) <;> simp [q]
    have h8' : ∀ y ∈ a ++ x :: b, y < 8 := fun y hy => ((mem y).mp hy).elim (h8 y) fun e => e ▸ hx
    have hnc : ¬ ((stL (a ++ b) big).1.toList.contains (x : Int)) = true := by
      simp only [stL, List.contains_iff_mem, List.mem_map]
      rintro ⟨y, hy, e⟩
      have : y = x := by lia
      exact hm (this ▸ hy)
    have ins : ∀ {α : Type} (f : Nat → α), SetTable.insertAt ((a ++ b).map f).toArray a.length (f x) = ((a ++ x :: b).map f).toArray := fun f => by
      apply Array.ext'
      rw [SetTable.toList_insertAt]
      simp
    have ins0 : SetTable.insertAt (a ++ b).toArray a.length x = (a ++ x :: b).toArray := by
      apply Array.ext'
      rw [SetTable.toList_insertAt]
      simp
    have hlay : layP (stL (a ++ b) big).2 (stL (a ++ b) big).1 (x : Int) = ((stL (a ++ x :: b) big).1, (stL (a ++ x :: b) big).2, false, false) := by
      unfold layP
      rw [free_stL h1 h2 hx]
      have hput : (stL (a ++ b) big).2.put x = ((stL (a ++ x :: b) big).2, a.length) := by
        unfold SetTable.put
        have e : SetTable.below (stL (a ++ b) big).2.place x = a.length := below_ins h1 h2
        rw [e]
        dsimp only
        have e2 : SetTable.insertAt (stL (a ++ b) big).2.place a.length x = (stL (a ++ x :: b) big).2.place := ins0
        rw [e2]
        rfl
      dsimp only
      rw [hput]
      dsimp only
      have hfit : ((stL (a ++ x :: b) big).2).fits (SetTable.insertAt (stL (a ++ b) big).1 a.length (x : Int)).size = true := by
        have e : SetTable.insertAt (stL (a ++ b) big).1 a.length (x : Int) = ((a ++ x :: b).map fun (i : Nat) => (i : Int)).toArray := ins _
        rw [e]
        simp only [SetTable.fits, SetTable.fill, stL, List.size_toArray, List.length_map, beq_self_eq_true, Bool.true_and, decide_eq_true_eq]
        simp only [List.length_append, List.length_cons] at hl7 hbig ⊢
        cases big <;> simp at hbig ⊢ <;> lia
      unfold SetTable.orStandIn
      rw [if_pos hfit, hfit]
      have e : SetTable.insertAt (stL (a ++ b) big).1 a.length (x : Int) = (stL (a ++ x :: b) big).1 := ins _
      rw [e]
      rfl
    unfold addP
    rw [if_neg hnc, hlay]
    dsimp only
    simp only [Bool.not_false, Bool.true_and]
    have hfull : (stL (a ++ x :: b) big).2.tooFull = (!big && decide ((a ++ x :: b).length ≥ 5)) := by
      unfold SetTable.tooFull SetTable.fill
      cases big
      · show decide (((a ++ x :: b).toArray.size + 0) * 5 ≥ 7 * 3) = _
        simp only [List.size_toArray, Bool.not_false, Bool.true_and]
        congr 1
        apply propext
        lia
      · show decide (((a ++ x :: b).toArray.size + 0) * 5 ≥ 31 * 3) = false
        rw [decide_eq_false]
        simp only [List.size_toArray, List.length_append, List.length_cons] at hl7 ⊢
        lia
    by_cases q : (stL (a ++ x :: b) big).2.tooFull = true
    · rw [if_pos q]
      rw [hfull] at q
      simp only [Bool.and_eq_true, Bool.not_eq_true', decide_eq_true_eq] at q
      obtain ⟨rfl, q⟩ := q
      have l5 : (a ++ x :: b).length = 5 := by
        simp only [List.length_append, List.length_cons, Bool.false_eq_true, false_or] at hbig q ⊢
        lia
      have hsz : (stL (a ++ x :: b) false).1.size = 5 := by simp only [stL, List.size_toArray, List.length_map]; exact l5
      rw [hsz]
      have r := relay_five _ (five_mem h3 h8' l5)
      have e20 : SetTable.grown 5 = 20 := by decide
      rw [e20]
      have r' : relayP (stL (a ++ x :: b) false).2 (stL (a ++ x :: b) false).1 20 = ((stL (a ++ x :: b) true).1, (stL (a ++ x :: b) true).2, false) := r
      rw [r']
      exact ⟨_, true, rfl, h3, h8', .inl rfl, mem⟩
    · rw [if_neg q]
      refine ⟨_, big, rfl, h3, h8', ?_, mem⟩
      rw [hfull] at q
      cases big
      · right
        simp only [Bool.not_false, Bool.true_and, decide_eq_true_eq] at q
        lia
      · exact .inl rfl
theorem len8 {l : List Nat} (h : l.Pairwise (· < ·)) (h8 : ∀ y ∈ l, y < 8) : l.length ≤ 8 := by
  have : ∀ (l : List Nat) (k : Nat), l.Pairwise (· < ·) → (∀ y ∈ l, k ≤ y ∧ y < 8) → l.length ≤ 8 - k := by
    intro l
    induction l with
    | nil => intros; simp
    | cons z r ih =>
      intro k h1 h2
      rw [List.pairwise_cons] at h1
      have a1 := h2 z (.head _)
      have a2 := ih (z + 1) h1.2 fun y hy => ⟨h1.1 y hy, (h2 y (.tail _ hy)).2⟩
      simp only [List.length_cons]
      lia
  exact this l 0 h fun y hy => ⟨Nat.zero_le _, h8 y hy⟩
theorem len7 {l : List Nat} (h : l.Pairwise (· < ·)) (h8 : ∀ y ∈ l, y < 8) {x : Nat} (hx : x < 8) (hm : x ∉ l) : l.length ≤ 7 := by
  obtain ⟨a, b, rfl, h1, h2, h3⟩ := sorted_ins h hm
  have := len8 h3 (fun y hy => by
    simp only [List.mem_append, List.mem_cons] at hy
    rcases hy with q | q | q
    · exact h8 y (List.mem_append_left _ q)
    · exact q ▸ hx
    · exact h8 y (List.mem_append_right _ q))
  simp only [List.length_append, List.length_cons] at this ⊢
  lia
/-- below eight the table stays plain -/
theorem setP_small (ns : List Nat) (h : ∀ x ∈ ns, x < 8) : goodP (setP true (ns.map fun (i : Nat) => (i : Int))) = true := by
  have key : ∀ (ns : List Nat), (∀ x ∈ ns, x < 8) → ∀ l big, l.Pairwise (· < ·) → (∀ y ∈ l, y < 8) → (big = true ∨ l.length ≤ 4) → goodP ((ns.map fun (i : Nat) => (i : Int)).foldl addP (stL l big)) = true := by
    intro ns
    induction ns with
    | nil => intro _ l big h1 _ _; exact good_stL h1
    | cons x r ih =>
      intro hn l big h1 h2 h3
      have hx := hn x (.head _)
      obtain ⟨l', big', e, a1, a2, a3, _⟩ := addP_stL h1 h2 hx h3 (by
        by_cases q : x ∈ l
        · exact .inr q
        · exact .inl (len7 h1 h2 hx q))
      simp only [List.map_cons, List.foldl_cons, e]
      exact ih (fun y hy => hn y (.tail _ hy)) l' big' a1 a2 a3
  exact key ns h [] false .nil (by simp) (.inr (by simp))
end Mine
end PartMSetP

section PartMSetA
open PySem PySem.W PyProof.Rows
set_option autoImplicit false
set_option linter.unusedVariables false
namespace Mine

def byText (w : World) : Bool := w.params.followText "set-order"
def keyOf : Value → Int
  | .int k _ => k
  | _ => 0
def smallK (k : Int) : Prop := 0 ≤ k ∧ k < 1048576
theorem hash_small {k : Int} (h : smallK k) : hashInt k = k := by
  obtain ⟨h1, h2⟩ := h
  have e : k.natAbs % (2 ^ 61 - 1) = k.natAbs := Nat.mod_eq_of_lt (by lia)
  have hr : rawHash k = k := by
    simp only [rawHash, e]
    split
    · lia
    · split <;> rename_i q <;> simp at q <;> lia
  unfold hashInt
  rw [hr, if_neg]
  simp; lia

/-- a set of small ints -/
structure SOk (bt : Bool) (ks : List Int) (es : Array (Int × Value)) (t : SetTable) : Prop where
  fits : t.fits es.size = true
  ent : ∀ e ∈ es.toList, (∃ tk, e.2 = .int (keyOf e.2) tk) ∧ e.1 = keyOf e.2
  nod : (es.toList.map fun e => keyOf e.2).Nodup
  mem : ∀ k, k ∈ es.toList.map (fun e => keyOf e.2) ↔ k ∈ ks
  tab : bt = false → (es.map (·.1), t) = setP true ks
def SAt (bt : Bool) (ks : List Int) (o : Obj) : Prop := o.ExactSet ∧ ∃ es ep t, o.data = .set es ep t ∧ SOk bt ks es t

theorem SOk.small {bt : Bool} {ks : List Int} {es : Array (Int × Value)} {t : SetTable} (x : SOk bt ks es t) (hk : ∀ k ∈ ks, smallK k) : ∀ e ∈ es.toList, smallK (keyOf e.2) := fun e he => hk _ ((x.mem _).mp (List.mem_map.mpr ⟨e, he, rfl⟩))
theorem SOk.size {bt : Bool} {ks : List Int} {es : Array (Int × Value)} {t : SetTable} (x : SOk bt ks es t) : es.size ≤ ks.length := by
  have : ∀ (a b : List Int), a.Nodup → (∀ k ∈ a, k ∈ b) → a.length ≤ b.length := by
    intro a
    induction a with
    | nil => intros; simp
    | cons z r ih =>
      intro b h1 h2
      rw [List.nodup_cons] at h1
      have hz := h2 z (.head _)
      have := ih (b.erase z) h1.2 fun k hk => (List.mem_erase_of_ne (fun e : k = z => h1.1 (e ▸ hk))).mpr (h2 k (.tail _ hk))
      rw [List.length_erase_of_mem hz] at this
      have := List.length_pos_of_mem hz
      simp only [List.length_cons]; lia
  have := this _ _ x.nod fun k hk => (x.mem k).mp hk
  simpa using this
theorem SOk.els {bt : Bool} {ks : List Int} {es : Array (Int × Value)} {t : SetTable} (prog : Program) (w : World) (x : SOk bt ks es t) (hk : ∀ k ∈ ks, smallK k) : ElemsOf (intKind prog w) es.toList := fun e he => by
  obtain ⟨⟨tk, e2⟩, e1⟩ := x.ent e he
  refine ⟨⟨keyOf e.2, ?_, ?_⟩, ?_⟩
  · have := intKind_is prog w (keyOf e.2) tk
    rw [← e2] at this; exact this
  · rw [e1]; exact (hash_small (x.small hk e he)).symm
  · rw [e2]; rfl

section
variable {prog : Program} {w : World} {A : Around} {E : Value → Shared → Prop} {s : Shared}

theorem store_at {a : Addr} {o : Obj} {es es' : Array (Int × Value)} {ep : Nat} {t t' : SetTable} {Q : Unit → Shared → Prop} (ho : s.heap.get? a = some o) (hex : o.ExactSet) (hd : o.data = .set es ep t) (hz : es'.size ≤ sizeLine)
    (h : ∀ h' o' ep', Heap.SameBut a s.heap h' → h'.get? a = some o' → o'.ExactSet → o'.data = .set es' ep' t' → Q () { s with heap := h' }) : wpAny (model prog w) A (storeSet a es' t') Q E s := by
  refine wpAny_storeSet_of ho hd (h _ { o with data := .set es' (ep + 1) t' } (ep + 1) (Heap.SameBut.update ..) ?_ hex rfl) hz
  have := Heap.get?_update_self (Obj.putSet es' t') ho (by rw [putSet_of es' t' hd]; rfl)
  rw [putSet_of es' t' hd] at this
  exact this

theorem add_ok {bt : Bool} {ks : List Int} {a : Addr} {o : Obj} {k : Int} {tk : Tok} {Q : Bool → Shared → Prop} (ho : s.heap.get? a = some o) (hs : SAt bt ks o) (hk : ∀ k ∈ ks, smallK k) (hk0 : smallK k) (hroom : ks.length + 1 < 4000)
    (h : ∀ h' o' b, Heap.SameBut a s.heap h' → h'.get? a = some o' → SAt bt (ks ++ [k]) o' → Q b { s with heap := h' }) : wpAny (model prog w) A (setAddHashed a (.int k tk) (hashInt k)) Q E s := by
  obtain ⟨hex, es, ep, t, hd, x⟩ := hs
  have hel := x.els prog w hk
  have hsz := x.size
  have hb : es.size < scanBound := by unfold scanBound; lia
  unfold setAddHashed setAddHashedIn
  refine wpAny_holding (wpAny_bind (wpAny_setState_of ho hd x.fits ?_))
  dsimp only
  rw [byScan_of rfl hb hel]
  simp only [↓reduceIte]
  unfold setAddByScan
  refine wpAny_bind ?_
  refine wpAny_bind (wpAny_rule ?_)
  refine wpAny_bind (wpAny_setScan_of (knd := intKind prog w) (k := k) (intKind_is prog w k tk) ho hd x.fits hel ?_)
  have setP_snoc : setP true (ks ++ [k]) = addP (setP true ks) k := by unfold setP; rw [List.foldl_append]; rfl
  cases hr : List.findIdx? (fun e => (intKind prog w).is k e.2) es.toList with
  | some j =>
    dsimp only
    obtain ⟨hj, hpj, _⟩ := List.findIdx?_eq_some_iff_getElem.mp hr
    have hjm := List.getElem_mem hj
    obtain ⟨⟨tj, ej⟩, ej1⟩ := x.ent _ hjm
    have hkj : keyOf es.toList[j].2 = k := by
      obtain ⟨t0, e0⟩ := Value.isInt_shape (show Value.isInt k es.toList[j].2 = true from hpj)
      rw [e0]; rfl
    have hkin : k ∈ ks := (x.mem k).mp (List.mem_map.mpr ⟨_, hjm, hkj⟩)
    refine wpAny_pure (wpAny_pure ?_)
    have e : s = { s with heap := s.heap } := by cases s; rfl
    rw [e]
    refine h s.heap o _ (Heap.SameBut.refl a s.heap) ho ⟨hex, es, ep, t, hd, x.fits, x.ent, x.nod, fun k' => ?_, fun hbt => ?_⟩
    · rw [x.mem, List.mem_append, List.mem_singleton]
      exact ⟨.inl, fun q => q.elim id fun e => e ▸ hkin⟩
    · have ht := x.tab hbt
      rw [setP_snoc, ← ht]
      unfold addP
      rw [if_pos]
      rw [List.contains_iff_mem, Array.toList_map, List.mem_map]
      exact ⟨_, hjm, ej1.trans hkj⟩
  | none =>
    dsimp only
    have hkn : ∀ e ∈ es.toList, keyOf e.2 ≠ k := fun e he q => by
      have := List.findIdx?_eq_none_iff.mp hr e he
      obtain ⟨⟨te, ee⟩, _⟩ := x.ent e he
      rw [ee, q, intKind_is] at this; cases this
    have hgw : ∀ (b : Bool) {s₁ : Shared} {Q' : Unit → Shared → Prop}, Q' () s₁ → wpAny (model prog w) A (match b with | true => rule "set.scan.the-table-gave-way" | false => pure ()) Q' E s₁ :=
      fun b s₁ Q' hq => by cases b <;> first | exact wpAny_pure hq | exact wpAny_rule hq
    have hperm := layNew_perm t es (hashInt k) (.int k tk)
    have hfits := layNew_fits t es (hashInt k) (.int k tk)
    have hP := layNew_P t es (hashInt k) (.int k tk)
    have hadd : bt = false → setP true (ks ++ [k]) = (let L := layP t (es.map (·.1)) k
        if (!L.2.2.1 && L.2.1.tooFull) = true then ((relayP L.2.1 L.1 (SetTable.grown L.1.size)).1, (relayP L.2.1 L.1 (SetTable.grown L.1.size)).2.1) else (L.1, L.2.1)) := fun hbt => by
      rw [setP_snoc, ← x.tab hbt]
      unfold addP
      rw [if_neg]
      rw [List.contains_iff_mem, Array.toList_map, List.mem_map]
      rintro ⟨e, he, q⟩
      exact hkn e he ((x.ent e he).2.symm.trans q)
    rw [hash_small hk0] at hP
    generalize hL : layNew t es (hashInt k) (.int k tk) = L at hperm hfits ⊢
    have hL' : layNew t es k (.int k tk) = L := by rw [← hL, hash_small hk0]
    rw [hL'] at hP
    obtain ⟨es1, t1, wasDummy, gave⟩ := L
    dsimp only at hperm hfits hP ⊢
    rw [Array.toList_push] at hperm
    have pushed : ∀ (es2 : Array (Int × Value)) (t2 : SetTable), es2.toList.Perm (es.toList ++ [(hashInt k, .int k tk)]) → t2.fits es2.size = true → (bt = false → (es2.map (·.1), t2) = setP true (ks ++ [k])) → SOk bt (ks ++ [k]) es2 t2 := by
      intro es2 t2 hp hf ht
      have hm := hp.map fun e => keyOf e.2
      rw [List.map_append] at hm
      refine ⟨hf, fun e he => ?_, ?_, fun k' => ?_, ht⟩
      · rcases List.mem_append.mp (hp.mem_iff.mp he) with q | q
        · exact x.ent e q
        · rw [List.mem_singleton.mp q]; exact ⟨⟨tk, rfl⟩, hash_small hk0⟩
      · rw [hm.nodup_iff, List.nodup_append]
        refine ⟨x.nod, by simp, ?_⟩
        intro a1 h1 b1 h2
        simp only [List.map_cons, List.map_nil, List.mem_singleton] at h2
        obtain ⟨e, he, q⟩ := List.mem_map.mp h1
        rintro rfl
        exact hkn e he (q.trans (h2.trans rfl))
      · rw [hm.mem_iff, List.mem_append, x.mem, List.mem_append]
        rfl
    have hb1 : es1.size = es.size + 1 := by rw [← Array.length_toList, hperm.length_eq, List.length_append, Array.length_toList]; rfl
    have hz1 : es1.size ≤ sizeLine := fits_of_scanBound (by unfold scanBound; lia)
    refine wpAny_bind (hgw _ ?_)
    have tail : ∀ (g : Bool → Sem Unit), (∀ (b : Bool) (s₁ : Shared) (Q' : Unit → Shared → Prop), Q' () s₁ → wpAny (model prog w) A (g b) Q' E s₁) → wpAny (model prog w) A (do
        storeSet a es1 t1
        if (!wasDummy && t1.tooFull) = true then do
            g (relayAll t1 es1 (SetTable.grown es1.size)).2.2
            storeSet a (relayAll t1 es1 (SetTable.grown es1.size)).1 (relayAll t1 es1 (SetTable.grown es1.size)).2.1
            pure (some true)
          else pure (some true)) (fun r s' => ∃ h' o', r = some true ∧ s' = { s with heap := h' } ∧ Heap.SameBut a s.heap h' ∧ h'.get? a = some o' ∧ SAt bt (ks ++ [k]) o') E s := by
      intro g hg
      refine wpAny_bind (store_at ho hex hd hz1 fun h1 o1 ep1 sb1 ho1 hex1 hd1 => ?_)
      split
      · rename_i hful
        have hp := relayAll_perm t1 es1 (SetTable.grown es1.size)
        have hfr := relayAll_fits t1 es1 (SetTable.grown es1.size)
        have hR := relayAll_P t1 es1 (SetTable.grown es1.size)
        generalize hRl : relayAll t1 es1 (SetTable.grown es1.size) = Rl at hp hfr hR ⊢
        obtain ⟨es2, t3, gave2⟩ := Rl
        dsimp only at hp hfr hR ⊢
        have hz2 : es2.size ≤ sizeLine := by rw [← Array.length_toList, hp.length_eq, Array.length_toList]; exact hz1
        refine wpAny_bind (hg _ _ _ ?_)
        refine wpAny_bind (store_at (s := { s with heap := h1 }) ho1 hex1 hd1 hz2 fun h2 o2 ep2 sb2 ho2 hex2 hd2 => ?_)
        refine wpAny_pure ⟨h2, o2, rfl, rfl, sb1.trans sb2, ho2, hex2, es2, ep2, t3, hd2, pushed _ _ (hp.trans hperm) hfr fun hbt => ?_⟩
        rw [hadd hbt, hP]
        dsimp only
        rw [if_pos hful, show (es1.map (·.1)).size = es1.size by simp, hR]
      · rename_i hful
        refine wpAny_pure ⟨h1, o1, rfl, rfl, sb1, ho1, hex1, es1, ep1, t1, hd1, pushed _ _ hperm hfits fun hbt => ?_⟩
        rw [hadd hbt, hP]
        dsimp only
        rw [if_neg hful]
    split
    · refine wpAny_bind ?_
      rw [hashByValue_scannable 8 (x := .int k tk) rfl]
      refine wpAny_pure ?_
      refine wpAny_mono (tail _ ?_) ?_ fun _ _ q => q
      · intro b s₁ Q' hq; cases b <;> first | exact wpAny_pure hq | exact wpAny_rule hq
      · rintro r s' ⟨h', o', rfl, rfl, sb, ho', hS⟩
        exact wpAny_pure (h h' o' _ sb ho' hS)
    · refine wpAny_bind (wpAny_pure ?_)
      simp only [↓reduceIte]
      refine wpAny_mono (tail _ ?_) ?_ fun _ _ q => q
      · intro b s₁ Q' hq; cases b <;> first | exact wpAny_pure hq | exact wpAny_rule hq
      · rintro r s' ⟨h', o', rfl, rfl, sb, ho', hS⟩
        exact wpAny_pure (h h' o' _ sb ho' hS)
end
end Mine
end PartMSetA

section PartMSetB
open PySem PySem.W PyProof.Rows
set_option autoImplicit false
set_option linter.unusedVariables false
namespace Mine

abbrev set0 (w : World) : Obj := { cls := .type "set", dict := none, data := .set #[] 0 (.fresh 0 0 (!byText w)) }
theorem SAt.zero (w : World) : SAt (byText w) [] (set0 w) := by
  refine ⟨⟨rfl, rfl, rfl⟩, #[], 0, _, rfl, by rfl, by simp, by simp, by simp, fun h => ?_⟩
  rw [h]; simp [setP]

section
variable {prog : Program} {w : World} {A : Around} {R : Result → Shared → Prop} {I S : Addr}
/-- one turn of the loop that fills a set -/
theorem upd_turn {s : Shared} (h : wpAny (model prog w) A.in1 (pyNext (.ref I)) (fun r s₁ => match r with
      | none => R (.ok (.ret .none)) s₁
      | some v => wpAny (model prog w) A.in1 (setAdd S v) (fun _ => codeAny (model prog w) A (.builtin "set.update.loop" ⟨[.ref S, .ref I], []⟩) R) (fun e => R (.error e)) s₁) (fun e => R (.error e)) s) :
    codeAny (model prog w) A (.builtin "set.update.loop" ⟨[.ref S, .ref I], []⟩) R s :=
  codeAny_builtin PyProof.Rows.F.entry_set_update_loop (by
    rw [Around.under_plainId PyProof.Rows.F.plain_set_update_loop _]
    refine wpAny_bind (wpAny_mono h (fun r s₁ q => ?_) fun _ _ q => q)
    cases r with
    | none => exact wpAny_pure q
    | some v => exact wpAny_bind (wpAny_holding (wpAny_mono q (fun _ _ q => wpAny_pure ⟨plainId_quiet PyProof.Rows.F.plain_set_update_loop _, q⟩) fun _ _ q => q)))

variable {fp wr : List Addr} {G : Array GenState → Array GenState → Prop} {n : Nat} {P : Nat → Value → Prop} {St : Nat → Shared → Prop} {bt : Bool}
/-- the loop that fills a set out of an iterator, m items before its end -/
theorem upd_loop (W : WalksS prog w A.in1 I fp wr G n P St) (hSf : S ∉ fp) (val : Nat → Int) (hval : ∀ i v, P i v → ∃ t, v = .int (val i) t) (hsm : ∀ i, i < n → smallK (val i)) (hb : n + 1 < 4000) :
    ∀ (m i : Nat) (s : Shared), i + m = n → St i s → Has s.heap S (SAt bt ((List.range i).map val)) →
      (∀ s', Moved (S :: wr) G s s' → Has s'.heap S (SAt bt ((List.range n).map val)) → R (.ok (.ret .none)) s') →
      codeAny (model prog w) A (.builtin "set.update.loop" ⟨[.ref S, .ref I], []⟩) R s := by
  have low : ∀ {a b : Shared}, Moved wr G a b → Moved (S :: wr) G a b := fun mv => mv.mono fun _ hm => .tail _ hm
  have still : ∀ {a b : Shared} {p : Obj → Prop}, Moved wr G a b → Has a.heap S p → Has b.heap S p := fun mv x => let ⟨o, e, q⟩ := x; ⟨o, mv.heap S _ (fun hm => hSf (W.sub _ hm)) e, q⟩
  intro m
  induction m with
  | zero =>
    intro i s e hst hS hR
    obtain rfl : i = n := e
    exact upd_turn (W.done s _ _ hst fun s₁ mv => hR s₁ (low mv) (still mv hS))
  | succ m ih =>
    intro i s e hst hS hR
    have hi : i < n := by lia
    refine upd_turn (W.item i s _ _ hi hst fun v s₁ hP hst₁ mv => ?_)
    obtain ⟨t, rfl⟩ := hval i v hP
    obtain ⟨o, ho, q⟩ := still mv hS
    unfold setAdd
    refine wpAny_holding (wpAny_bind ((intKind prog w).pyHash (k := val i) (intKind_is _ _ _ _) (add_ok (bt := bt) (s := { s₁ with toks := s₁.toks + 1 }) ho q (fun z hz => ?_) (hsm i hi) (by simp; lia) fun h₂ o₂ _ sb ho₂ q₂ => ?_)))
    · obtain ⟨j, hj, rfl⟩ := List.mem_map.mp hz
      exact hsm j (Nat.lt_trans (List.mem_range.mp hj) hi)
    · have oth : ∀ b o, b ≠ S → s₁.heap.get? b = some o → h₂.get? b = some o := fun b o hn e => (sb.2 b hn).trans e
      rw [← List.map_singleton, ← List.map_append, ← List.range_succ] at q₂
      refine ih (i + 1) _ (by lia) (W.frame _ s₁ _ _ hst₁ (Nat.le_succ _) fun b hb' o e => oth b o (fun q => hSf (q ▸ hb')) e) ⟨o₂, ho₂, q₂⟩ fun s₃ mv₃ hS₃ => hR s₃ ?_ hS₃
      exact ((low mv).then_heap (Nat.le_succ _) fun b o hn e => oth b o (fun q => hn (q ▸ .head _)) e).trans W.gtrans mv₃
end

section
variable {prog : Program} {w : World} {A : Around} {E : Value → Shared → Prop} {s : Shared}
/-- set.__new__: the table's kind is told -/
theorem set_new_led (a : Value) {Q₁ : Value → Shared → Prop} (h : Q₁ (.ref s.heap.objs.size) { s with heap := s.heap.push (set0 w) }) :
    codeAny (model prog w) A (.call (.builtin "set.__new__") ⟨[.type "set", a], []⟩) (wants Q₁ E) s := by
  refine codeAny_call_builtin PySem.F.plain_set_new PySem.F.entry_set_new (wpAny_of_eq (PySem.F.newCall_set_1 a) ?_)
  have self := sub_set_self
  cases s
  unfold Builtin.«set.__new__» Builtin.Frozenset.newClass
  wp_walk
  exact wpAny_askSetting (wpAny_pure (wpAny_bind (wpAny_alloc (wpAny_pure (wpAny_pure h)))))

/-- set.__init__ with a list of small ints -/
theorem set_init_ok {S l : Addr} {vs : List Value} {ns : List Int} {F : Fin → Shared → Prop} (hh : A.handled = none) (hl : s.heap.IsList l vs.toArray) (hi : IntsAre vs ns) (hsm : ∀ k ∈ ns, smallK k) (hb : ns.length + 1 < 4000)
    (hS : s.heap.get? S = some (set0 w)) (hne : l ≠ S)
    (h : ∀ h' tk, Has h' S (SAt (byText w) ns) → (∀ b o, b ≠ S → s.heap.get? b = some o → h'.get? b = some o) → F (.done (.ret .none)) { s with heap := h', toks := tk }) :
    wpAny (model prog w) A (Builtin.«set.__init__» ⟨[.ref S, .ref l], []⟩) F E s := by
  have e1 := PySem.F.sub_list_set
  have e2 := PySem.F.sub_list_frozenset
  have e3 : (Value.type "list" == Value.type "dict") = false := by decide
  have hsz : vs.toArray.size = ns.length := hi.length
  obtain ⟨⟨cls, dict, data, slots⟩, hol, rfl, nl, rfl⟩ := id hl
  unfold Builtin.«set.__init__» noKeywords Builtin.Frozenset.updateFrom
  generalize hPI : pyIter = PI
  wp_walk
  subst hPI
  refine wpAny_pyIter_list hl (wpAny_bind (wpAny_runValue ?_))
  have lo : ∀ {a : Addr} {o : Obj}, s.heap.get? a = some o → a ≠ s.heap.objs.size := fun e => Nat.ne_of_lt (Heap.lt_size e)
  have hw : (List.range vs.toArray.size).map (fun i => ns.getD i 0) = ns := by
    rw [hsz]
    exact List.ext_getElem (by simp) fun i _ q => by simp [List.getD_eq_getElem?_getD, q]
  refine upd_loop (bt := byText w) ((Walks.list (by simp [hh]) _ l (lo hol) vs.toArray).toS) (by simp [lo hS, hne.symm]) (fun i => ns.getD i 0) (fun i v q => hi.int_at i v (by simpa using q)) (fun i q => ?_) (by rw [hsz]; exact hb) vs.toArray.size 0 _ (Nat.zero_add _)
    ⟨⟨_, Heap.get?_push_size _ rfl, rfl, rfl⟩, hl.push _⟩ ⟨_, Heap.get?_push_of_some _ hS, SAt.zero w⟩ fun s₁ mv hS₁ => ?_
  · rw [hsz] at q
    rw [List.getD_eq_getElem?_getD, List.getElem?_eq_getElem q, Option.getD_some]
    exact hsm _ (List.getElem_mem _)
  · rw [hw] at hS₁
    obtain ⟨h₁, g₁, d₁, t₁, o₁⟩ := s₁
    obtain rfl : g₁ = s.gens := mv.gens
    obtain rfl : d₁ = s.drawn := mv.drawn
    obtain rfl : o₁ = s.os := mv.os
    exact wpAny_pure (wpAny_pure (h h₁ t₁ hS₁ fun b o hn e => mv.heap b o (by simp [hn, lo e]) (Heap.get?_push_of_some _ e)))

set_option maxHeartbeats 3200000 in
/-- set(xs) -/
theorem call_set_ok {l : Addr} {vs : List Value} {ns : List Int} {Q : Value → Shared → Prop} (hh : A.handled = none) (hl : s.heap.IsList l vs.toArray) (hi : IntsAre vs ns) (hsm : ∀ k ∈ ns, smallK k) (hb : ns.length + 1 < 4000)
    (h : ∀ (h' : Heap) (tk : Nat) o, h'.get? s.heap.objs.size = some o → SAt (byText w) ns o → (∀ b o, b < s.heap.objs.size → s.heap.get? b = some o → h'.get? b = some o) → Q (.ref s.heap.objs.size) { s with heap := h', toks := tk }) :
    wpAny (model prog w) A (call (.type "set") [.ref l]) Q E s := by
  have c := PySem.F.called_set
  have f1 := c.notType
  have f2 := c.canCreate
  have f3 := c.made
  have f4 := c.sub
  have f5 := c.init.lookup
  have f6 := c.init.bind (.ref s.heap.objs.size)
  have f7 := PySem.F.typeCall_set_1 (.ref l)
  obtain ⟨m0, m1, f8⟩ := c.mro
  let s₁ : Shared := { s with heap := s.heap.push (set0 w) }
  have hS : s₁.heap.get? s.heap.objs.size = some (set0 w) := Heap.get?_push_size _ rfl
  have hT : s₁.TypeIs (.ref s.heap.objs.size) "set" := ⟨_, hS, rfl⟩
  have made : codeAny (model prog w) A.in1 (.call (.builtin "set.__new__") ⟨[.type "set", .ref l], []⟩) (wants (fun v z => v = .ref s.heap.objs.size ∧ z = s₁) E) s := set_new_led _ ⟨rfl, rfl⟩
  have filled : codeAny (model prog w) A.in1 (.call (.builtin "set.__init__") ⟨[.ref s.heap.objs.size, .ref l], []⟩) (wants (fun v z => v = .none ∧ Q (.ref s.heap.objs.size) z) E) s₁ := by
    refine codeAny_call_builtin c.init.plain PySem.F.entry_set_init (check_set_init_1 hT ?_)
    obtain ⟨ol, eo, r⟩ := id hl
    exact set_init_ok (by simp [hh]) (hl.push _) hi hsm hb hS (Nat.ne_of_lt (Heap.lt_size eo)) fun h' tk ⟨o, ho, q⟩ k => ⟨rfl, h h' tk o ho q fun b o hlt e => k b o (Nat.ne_of_lt hlt) (Heap.get?_push_of_some _ e)⟩
  refine wpAny_call (codeAny_of_tree (wpAny_pure ⟨Code.quiet_builtin _ (by decide +kernel), codeAny_builtin PySem.F.entry_type_call ?_⟩))
  rw [Around.under_plain (weight_type_call_type "set" [.ref l] []) rfl]
  repeat (any_goals (first | assumption | wp_step))
  refine codeAny_mono made fun r z q => ?_
  rcases r with _ | f
  · exact q
  rcases f with _ | _ | _ | v
  all_goals try exact q.elim
  obtain ⟨rfl, e⟩ := q
  subst e
  repeat (any_goals (first | assumption | wp_step))
  refine codeAny_mono filled fun r z q => ?_
  rcases r with _ | f
  · exact q
  rcases f with _ | _ | _ | v
  all_goals try exact q.elim
  obtain ⟨rfl, q⟩ := q
  repeat (any_goals (first | assumption | wp_step))
end
end Mine
end PartMSetB

section PartMSetC
open PySem PySem.W PyProof.Rows
set_option autoImplicit false
set_option linter.unusedVariables false
namespace Mine

theorem erase_perm {α : Type} : ∀ (l : List α) (i : Nat) (h : i < l.length), (l[i] :: l.eraseIdx i).Perm l
  | a :: l, 0, _ => .refl _
  | a :: l, i + 1, h => by
    simp only [List.getElem_cons_succ, List.eraseIdx_cons_succ]
    exact (List.Perm.swap _ _ _).trans ((erase_perm l i (by simpa using h)).cons a)
theorem pick_perm {α : Type} (next : Nat → Nat) (xs : Array α) : (pickOrder next xs).toList.Perm xs.toList := by
  have key : ∀ (fuel k : Nat) (left : List α) (out : Array α), left.length = fuel → (pickOrder.go next fuel k left out).toList.Perm (out.toList ++ left) := by
    intro fuel
    induction fuel with
    | zero =>
      intro k left out h
      have : left = [] := List.eq_nil_of_length_eq_zero h
      subst this
      simp [pickOrder.go]
    | succ fuel ih =>
      intro k left out h
      have hi : next k % left.length < left.length := Nat.mod_lt _ (by lia)
      unfold pickOrder.go
      rw [List.getElem?_eq_getElem hi]
      dsimp only
      refine (ih (k + 1) _ _ (by rw [List.length_eraseIdx_of_lt hi]; lia)).trans ?_
      rw [Array.toList_push, List.append_assoc]
      refine List.Perm.append_left _ ?_
      rw [List.singleton_append]
      exact (erase_perm left _ hi)
  have := key xs.size 0 xs.toList #[] (by simp)
  simpa [pickOrder] using this

theorem slot_si : Slot "set_iterator" "__next__" "set_iterator.__next__" :=
  .of (owner := "set_iterator") (n := "__next__") (by rw [typeLookup_type, builtinLookup_eq_fast]; kernel_rfl) (by decide +kernel) (by decide +kernel) (by decide +kernel)
    (by first | exact .inl (by decide +kernel) | exact .inr (by decide +kernel)) (by rw [isSubtype_type]; kernel_rfl)
theorem entry_si : entryFor table "set_iterator.__next__" = some Builtin.«set_iterator.__next__» := entryFor_of_tree (by kernel_rfl)
theorem owner_si : Manifest.owners.lookup (String.ofList ['r', 'o', 't', 'a', 'r', 'e', 't', 'i', '_', 't', 'e', 's'].reverse) = some Manifest.sig_set_iterator := by kernel_rfl
theorem args_si (a : Value) : argsOk "set_iterator.__next__" ⟨[a], []⟩ := by
  unfold argsOk; rw [signature?_of (id := "set_iterator.__next__") (n := ['_', '_', 't', 'x', 'e', 'n', '_', '_']) (o := ['r', 'o', 't', 'a', 'r', 'e', 't', 'i', '_', 't', 'e', 's']) (by kernel_rfl) owner_si]; kernel_rfl
theorem entry_set_it : entryFor table "set.__iter__" = some Builtin.«frozenset.__iter__» := entryFor_alias (id' := "frozenset.__iter__") (by kernel_rfl) rfl (by decide +kernel) (by kernel_rfl)
theorem entry_si_it : entryFor table "set_iterator.__iter__" = some Builtin.«dict_keyiterator.__iter__» := entryFor_alias (id' := "dict_keyiterator.__iter__") (by kernel_rfl) rfl (by decide +kernel) (by kernel_rfl)
theorem args_si_it (a : Value) : argsOk "set_iterator.__iter__" ⟨[a], []⟩ := by
  unfold argsOk; rw [signature?_of (id := "set_iterator.__iter__") (n := ['_', '_', 'r', 'e', 't', 'i', '_', '_']) (o := ['r', 'o', 't', 'a', 'r', 'e', 't', 'i', '_', 't', 'e', 's']) (by kernel_rfl) owner_si]; kernel_rfl
theorem len_set : typeLookup (.type "set") "__len__" = pure (some (.builtin "set.__len__")) := by rw [typeLookup_type, builtinLookup_eq_fast]; kernel_rfl
theorem slot_si_iter : Slot "set_iterator" "__iter__" "set_iterator.__iter__" :=
  .of (owner := "set_iterator") (n := "__iter__") (by rw [typeLookup_type, builtinLookup_eq_fast]; kernel_rfl) (by decide +kernel) (by decide +kernel) (by decide +kernel)
    (by first | exact .inl (by decide +kernel) | exact .inr (by decide +kernel)) (by rw [isSubtype_type]; kernel_rfl)

/-- the set stands, its table as it is -/
structure SetIn (w : World) (a : Addr) (es : Array (Int × Value)) (ep : Nat) (t : SetTable) (h : Heap) : Prop where
  at_ : ∃ o, h.get? a = some o ∧ o.cls = .type "set" ∧ o.data = .set es ep t
  fits : t.fits es.size = true
  good : byText w = false → t.plain = true ∧ t.led = true ∧ ∀ i, i ≤ es.size → SetTable.below t.place (slotAt t.place i) = i
def seqOf (w : World) (a : Addr) (es : Array (Int × Value)) (ep : Nat) : Array (Int × Value) := if byText w = true then pickOrder (w.params.setOrder a ep) es else es
theorem seq_perm (w : World) (a : Addr) (es : Array (Int × Value)) (ep : Nat) : (seqOf w a es ep).toList.Perm es.toList := by
  unfold seqOf; split
  · exact pick_perm _ _
  · exact .refl _
def slAt (w : World) (t : SetTable) (i : Nat) : Nat := if byText w = true then 0 else slotAt t.place i
def SetIt (w : World) (it a : Addr) (es : Array (Int × Value)) (ep : Nat) (t : SetTable) (i : Nat) (h : Heap) : Prop :=
  ∃ o, h.get? it = some o ∧ o.cls = .type "set_iterator" ∧ o.data = .fields #[rawInt (slAt w t i), rawInt i, .ref a, rawInt es.size, rawInt ep]

section
variable {prog : Program} {w : World} {A : Around} {E : Value → Shared → Prop} {s : Shared} {a it : Addr} {es : Array (Int × Value)} {ep : Nat} {t : SetTable}
theorem drawn_ok {Q : Bool → Shared → Prop} (x : SetIn w a es ep t s.heap) (h : Q false s) : wpAny (model prog w) A (setDrawn a) Q E s := by
  obtain ⟨o, ho, hc, hd⟩ := x.at_
  unfold setDrawn setsByText
  refine wpAny_bind (wpAny_setState_of ho hd x.fits ?_)
  refine wpAny_bind (wpAny_bind (wpAny_askSetting (wpAny_pure ?_)))
  refine wpAny_pure ?_
  have key : Q (!(byText w) && (!t.plain && decide (es.size > 1))) s := by
    cases hb : byText w with
    | true => exact h
    | false => rw [(x.good hb).1]; exact h
  exact key

theorem walk_ok {Q : Array (Int × Value) → Shared → Prop} (x : SetIn w a es ep t s.heap) (hb : byText w = true) (h : Q (seqOf w a es ep) s) : wpAny (model prog w) A (setWalk a) Q E s := by
  obtain ⟨o, ho, hc, hd⟩ := x.at_
  unfold setWalk setsByText
  refine wpAny_bind (wpAny_setState_of ho hd x.fits ?_)
  refine wpAny_bind (wpAny_bind (wpAny_askSetting (wpAny_pure ?_)))
  have e : (w.params.followText "set-order") = true := hb
  show wpAny _ _ (if (w.params.followText "set-order") = true then _ else _) _ _ _
  rw [if_pos e]
  refine wpAny_bind (wpAny_askSetting (wpAny_pure ?_))
  have : seqOf w a es ep = pickOrder (w.params.setOrder a ep) es := by unfold seqOf; rw [if_pos hb]
  rw [this] at h
  exact h

theorem next_ok {Q : Option (Value × Nat) → Shared → Prop} {i : Nat} (x : SetIn w a es ep t s.heap) (hi : i ≤ es.size)
    (h : Q (if h : i < (seqOf w a es ep).size then some ((seqOf w a es ep)[i].2, slAt w t (i + 1)) else none) s) : wpAny (model prog w) A (setNext a (slAt w t i) i ep) Q E s := by
  obtain ⟨o, ho, hc, hd⟩ := x.at_
  unfold setNext setsByText
  refine wpAny_bind (wpAny_setState_of ho hd x.fits ?_)
  refine wpAny_bind (wpAny_bind (wpAny_askSetting (wpAny_pure ?_)))
  show wpAny _ _ (if (w.params.followText "set-order") = true then _ else _) _ _ _
  cases hb : byText w with
  | true =>
    have e : (w.params.followText "set-order") = true := hb
    rw [if_pos e]
    simp only [bne_self_eq_false, Bool.false_eq_true, if_false]
    refine wpAny_bind (walk_ok x hb (wpAny_pure ?_))
    have hs : ∀ j, slAt w t j = 0 := fun j => by unfold slAt; rw [if_pos hb]
    rw [hs, ] at h
    rw [hs]
    split at h
    · rename_i q
      rw [Array.getElem?_eq_getElem q]; exact h
    · rename_i q
      rw [Array.getElem?_eq_none (Nat.le_of_not_lt q)]; exact h
  | false =>
    obtain ⟨hp, hl, hbl⟩ := x.good hb
    have e : ¬ (w.params.followText "set-order") = true := by
      intro q
      have : byText w = true := q
      rw [hb] at this; cases this
    rw [if_neg e]
    show wpAny _ _ (if (!t.plain && decide (es.size > 1)) = true then _ else _) _ _ _
    rw [if_neg (by rw [hp]; exact Bool.false_ne_true)]
    show wpAny _ _ ((if (!t.led && !es.isEmpty) = true then _ else pure ()) >>= _) _ _ _
    rw [if_neg (by rw [hl]; exact Bool.false_ne_true)]
    refine wpAny_bind (wpAny_pure ?_)
    have hs : ∀ j, slAt w t j = slotAt t.place j := fun j => by unfold slAt; rw [if_neg (by rw [hb]; exact Bool.false_ne_true)]
    have hq : seqOf w a es ep = es := by unfold seqOf; rw [if_neg (by rw [hb]; exact Bool.false_ne_true)]
    rw [hs] at h ⊢
    rw [hbl i hi]
    have hsz : t.place.size = es.size := by
      have := x.fits
      simp only [SetTable.fits, Bool.and_eq_true, beq_iff_eq] at this
      exact this.1
    simp only [hq] at h
    dsimp only
    split at h
    · rename_i q
      rw [Array.getElem?_eq_getElem q, Array.getElem?_eq_getElem (show i < t.place.size by lia)]
      refine wpAny_pure ?_
      have e2 : slotAt t.place (i + 1) = t.place[i]'(by lia) + 1 := by
        show t.place.getD i 0 + 1 = _
        simp [Array.getD, show i < t.place.size by lia]
      rw [e2] at h
      exact h
    · rename_i q
      rw [Array.getElem?_eq_none (Nat.le_of_not_lt q)]
      exact wpAny_pure h

theorem SetIt.typeIs {i : Nat} (x : SetIt w it a es ep t i s.heap) : s.TypeIs (.ref it) "set_iterator" := let ⟨o, ho, hc, _⟩ := x; ⟨o, ho, hc⟩
theorem SetIn.typeIs (x : SetIn w a es ep t s.heap) : s.TypeIs (.ref a) "set" := let ⟨o, ho, hc, _⟩ := x.at_; ⟨o, ho, hc⟩
theorem SetIn.keep {h h' : Heap} (x : SetIn w a es ep t h) (k : ∀ o, h.get? a = some o → h'.get? a = some o) : SetIn w a es ep t h' := ⟨let ⟨o, ho, r⟩ := x.at_; ⟨o, k o ho, r⟩, x.fits, x.good⟩
theorem SetIt.keep {h h' : Heap} {i : Nat} (x : SetIt w it a es ep t i h) (k : ∀ o, h.get? it = some o → h'.get? it = some o) : SetIt w it a es ep t i h' := let ⟨o, ho, r⟩ := x; ⟨o, k o ho, r⟩

theorem iter_set {Q : Value → Shared → Prop} (x : SetIn w a es ep t s.heap)
    (h : Q (.ref s.heap.objs.size) { s with heap := s.heap.push { cls := .type "set_iterator", data := .fields #[rawInt 0, rawInt 0, .ref a, rawInt es.size, rawInt ep] } }) : wpAny (model prog w) A (pyIter (.ref a)) Q E s := by
  obtain ⟨o, ho, hc, hd⟩ := id x.at_
  refine wpAny_pyIter_slot x.typeIs PySem.F.slot_set_iter (wpAny_call_entry PySem.F.slot_set_iter x.typeIs entry_set_it ?_ (PySem.F.args_set_iter_1 _))
  unfold Builtin.«frozenset.__iter__» Builtin.Frozenset.slot0 slotArgs
  simp only [List.isEmpty_nil, Bool.not_true, Bool.false_eq_true, ↓reduceIte, bind_assoc, List.length_nil, bne_self_eq_false]
  unfold Builtin.Frozenset.addrOf Builtin.Frozenset.sizeOf
  refine wpAny_bind (wpAny_pure ?_)
  try dsimp only
  refine wpAny_bind (wpAny_pure ?_)
  refine wpAny_bind (wpAny_bind (wpAny_setEntries_of ho hd x.fits (wpAny_pure ?_)))
  refine wpAny_bind (drawn_ok x ?_)
  simp only [Bool.false_eq_true, ↓reduceIte]
  refine wpAny_bind (wpAny_pure ?_)
  refine wpAny_bind (wpAny_setEpoch_of ho hd x.fits ?_)
  exact wpAny_bind (wpAny_newObj_type (wpAny_pure ⟨_, rfl, "set_iterator", _, ⟨_, Heap.get?_push_size _ rfl, rfl⟩, slot_si.lookup, h⟩))

theorem item_set {Q : Option Value → Shared → Prop} {i : Nat} (hit : SetIt w it a es ep t i s.heap) (x : SetIn w a es ep t s.heap) (hi : i < es.size) (hsz : (seqOf w a es ep).size = es.size)
    (hQ : ∀ h', SetIt w it a es ep t (i + 1) h' → Heap.SameBut it s.heap h' → Q (some ((seqOf w a es ep)[i]'(by lia)).2) { s with heap := h' }) : wpAny (model prog w) A (pyNext (.ref it)) Q E s := by
  obtain ⟨o, ho, hc, hd⟩ := id hit
  obtain ⟨oa, hoa, hca, hda⟩ := id x.at_
  refine nextBy hit.typeIs slot_si entry_si (args_si _) ?_
  unfold Builtin.«set_iterator.__next__»
  refine wpAny_bind (wpAny_pure (wpAny_bind (wpAny_fieldsOf ho hd ?_)))
  try dsimp only [rawInt]
  refine wpAny_bind (wpAny_setEntries_of hoa hda x.fits ?_)
  rw [if_neg (by simp)]
  try dsimp only
  simp only [Int.toNat_natCast]
  refine wpAny_bind (next_ok x (Nat.le_of_lt hi) ?_)
  rw [dif_pos (by lia)]
  dsimp only
  have d1 := Obj.data_mapFields hd (·.setIfInBounds 0 (rawInt (slAt w t (i + 1))))
  have g1 := Heap.get?_update_self (Obj.mapFields (·.setIfInBounds 0 (rawInt (slAt w t (i + 1))))) ho (Obj.isFreed_of_fields d1)
  have d2 := Obj.data_mapFields d1 (·.setIfInBounds 1 (rawInt ((i : Int) + 1)))
  have g2 := Heap.get?_update_self (Obj.mapFields (·.setIfInBounds 1 (rawInt ((i : Int) + 1)))) g1 (Obj.isFreed_of_fields d2)
  refine wpAny_bind (wpAny_setField ho hd (by simp) (wpAny_bind ?_))
  refine wpAny_setField (s := { s with heap := s.heap.update it (Obj.mapFields (·.setIfInBounds 0 (rawInt (slAt w t (i + 1))))) }) g1 d1 (by simp) ?_
  exact wpAny_pure ⟨_, rfl, hQ _ ⟨_, g2, by rw [Obj.cls_mapFields, Obj.cls_mapFields]; exact hc, by rw [d2]; simp [rawInt]⟩ ((Heap.SameBut.update ..).trans (Heap.SameBut.update ..))⟩
theorem end_set {Q : Option Value → Shared → Prop} (hh : A.handled = none) (hit : SetIt w it a es ep t es.size s.heap) (x : SetIn w a es ep t s.heap) (hsz : (seqOf w a es ep).size = es.size)
    (hQ : ∀ h', Heap.ExtBut it s.heap h' → Q none { s with heap := h' }) : wpAny (model prog w) A (pyNext (.ref it)) Q E s := by
  obtain ⟨o, ho, hc, hd⟩ := id hit
  obtain ⟨oa, hoa, hca, hda⟩ := id x.at_
  refine nextBy hit.typeIs slot_si entry_si (args_si _) ?_
  unfold Builtin.«set_iterator.__next__»
  refine wpAny_bind (wpAny_pure (wpAny_bind (wpAny_fieldsOf ho hd ?_)))
  try dsimp only [rawInt]
  refine wpAny_bind (wpAny_setEntries_of hoa hda x.fits ?_)
  rw [if_neg (by simp)]
  try dsimp only
  simp only [Int.toNat_natCast]
  refine wpAny_bind (next_ok x (Nat.le_refl _) ?_)
  rw [dif_neg (by lia)]
  dsimp only
  exact wpAny_bind (wpAny_setField ho hd (by simp) (wpAny_bind (stopMade fun h' e k ty => wpAny_raiseNew_none hh ⟨ty, hQ h' fun b o hb eb => k b o ((Heap.SameBut.update ..).extBut b o hb eb)⟩)))
end
end Mine
end PartMSetC

section PartMSetD
open PySem PySem.W PyProof.Rows
set_option autoImplicit false
set_option linter.unusedVariables false
namespace Mine

def SetP (w : World) (a : Addr) (es : Array (Int × Value)) (ep : Nat) (i : Nat) (v : Value) : Prop := ((seqOf w a es ep)[i]?).map (·.2) = some v
theorem seq_size (w : World) (a : Addr) (es : Array (Int × Value)) (ep : Nat) : (seqOf w a es ep).size = es.size := by
  have := (seq_perm w a es ep).length_eq
  simpa using this
theorem walks_set {prog : Program} {w : World} {A : Around} {a : Addr} {es : Array (Int × Value)} {ep : Nat} {t : SetTable} (hh : A.handled = none) (it : Addr) (ne : a ≠ it) :
    Walks prog w A it [it, a] [it] es.size (SetP w a es ep) (fun i h => SetIt w it a es ep t i h ∧ SetIn w a es ep t h) where
  sub := fun b hb => by simp at hb; simp [hb]
  frame := fun _ _ _ st hk => ⟨st.1.keep fun o e => hk it (by simp) o e, st.2.keep fun o e => hk a (by simp) o e⟩
  item := fun i s Q E hi st hQ => by
    have hz := seq_size w a es ep
    refine item_set st.1 st.2 hi hz fun h' hit' hs' => ?_
    refine hQ _ h' s.toks ?_ ⟨hit', st.2.keep fun o e => hs'.extBut a o ne e⟩ fun b o hb e => hs'.extBut b o (fun h => hb (by simp [h])) e
    unfold SetP
    rw [Array.getElem?_eq_getElem (by lia)]; rfl
  done := fun s Q E st hQ => end_set hh st.1 st.2 (seq_size w a es ep) fun h' he' => hQ h' s.toks fun b o hb e => he' b o (fun h => hb (by simp [h])) e
  self := fun i s Q E st hQ => by
    refine wpAny_pyIter_slot st.1.typeIs slot_si_iter (wpAny_call_entry slot_si_iter st.1.typeIs entry_si_it ?_ (args_si_it _))
    show wpAny _ _ (ret (.ref it)) _ _ s
    exact wpAny_pure ⟨_, rfl, "set_iterator", _, st.1.typeIs, slot_si.lookup, hQ⟩
theorem hint_set {prog : Program} {w : World} {A : Around} {E : Value → Shared → Prop} {s : Shared} {r : Addr} {Q : Bool → Shared → Prop} (hT : s.TypeIs (.ref r) "set") (h : Q false s) : wpAny (model prog w) A (Builtin.List.listLengthHint (.ref r)) Q E s := by
  unfold Builtin.List.listLengthHint
  refine wpAny_bind (wpAny_specialOf hT len_set ?_)
  generalize hid : ("set.__len__" : String) = id0
  wp_delta
  rw [show splitId id0 = some ("set", "__len__") from by subst hid; decide +kernel]
  subst hid
  refine wpAny_bind (wpAny_isInstance (T := "set") (b := true) hT (by rw [isSubtype_type]; kernel_rfl) ?_)
  refine wpAny_ite_split (fun hab => absurd hab (by decide)) (fun _ => ?_)
  refine wpAny_ite_split (fun _ => ?_) (fun hab => absurd (by decide +kernel) hab)
  refine wpAny_bind (wpAny_typeOf hT ?_)
  exact wpAny_pure h
theorem src_set {prog : Program} {w : World} {a : Addr} {es : Array (Int × Value)} {ep : Nat} {t : SetTable} : KdlSrc prog w "set" a a es.size (SetP w a es ep) (SetIn w a es ep t) where
  type := fun _ x => x.typeIs
  there := fun _ x => let ⟨o, ho, _⟩ := x.at_; ⟨Heap.lt_size ho, Heap.lt_size ho⟩
  keep := fun _ _ x hk => x.keep fun o e => hk a (.inl rfl) o e
  notList := by decide
  notTuple := by decide
  hint := fun _ _ _ _ x hq => hint_set x.typeIs hq
  iter := fun _ s hh x => ⟨_, _, (fun _ _ hq => iter_set x hq), walks_set hh _ (let ⟨o, ho, _⟩ := x.at_; Nat.ne_of_lt (Heap.lt_size ho)),
    ⟨⟨_, Heap.get?_push_size _ rfl, rfl, by
      have : slAt w t 0 = 0 := by unfold slAt slotAt; split <;> rfl
      rw [this]; rfl⟩, x.keep fun o e => Heap.get?_push_of_some _ e⟩⟩

theorem good_below {st : Array Int × SetTable} (h : goodP st = true) : st.2.plain = true ∧ st.2.led = true ∧ ∀ i, i ≤ st.2.place.size → SetTable.below st.2.place (slotAt st.2.place i) = i := by
  unfold goodP at h
  simp only [Bool.and_eq_true, List.all_eq_true, List.mem_range, beq_iff_eq] at h
  exact ⟨h.1.1, h.1.2, fun i hi => h.2 i (by lia)⟩
theorem SAt.into {w : World} {a : Addr} {ns : List Int} {h : Heap} (x : Has h a (SAt (byText w) ns)) (good : goodP (setP true ns) = true) : ∃ es ep t, SetIn w a es ep t h ∧ SOk (byText w) ns es t := by
  obtain ⟨o, ho, hex, es, ep, t, hd, y⟩ := x
  refine ⟨es, ep, t, ⟨⟨o, ho, hex.1, hd⟩, y.fits, fun hb => ?_⟩, y⟩
  have e := y.tab hb
  rw [← e] at good
  obtain ⟨g1, g2, g3⟩ := good_below good
  have hz : t.place.size = es.size := by
    have := y.fits
    simp only [SetTable.fits, Bool.and_eq_true, beq_iff_eq] at this
    exact this.1
  exact ⟨g1, g2, fun i hi => g3 i (by rw [hz]; exact hi)⟩
theorem SAt.nc {bt : Bool} {ns : List Int} (o : Obj) (x : SAt bt ns o) : ¬ Codeish o := by
  obtain ⟨_, es, ep, t, hd, _⟩ := x
  rintro ⟨vs, q, t', hd', _⟩
  rw [hd] at hd'; cases hd'
theorem strict_of {l : List Int} (h : l.Pairwise (· ≤ ·)) (n : l.Nodup) : l.Pairwise (· < ·) :=
  (h.and n).imp fun q => by lia
theorem intsAre_map : ∀ (l : List (Int × Value)), (∀ e ∈ l, ∃ tk, e.2 = .int (keyOf e.2) tk) → IntsAre (l.map (·.2)) (l.map fun e => keyOf e.2)
  | [], _ => .nil
  | e :: r, h => by
    obtain ⟨tk, q⟩ := h e (.head _)
    have := IntsAre.cons (keyOf e.2) tk (intsAre_map r fun x hx => h x (.tail _ hx))
    simp only [List.map_cons]
    rw [← q] at this
    exact this

theorem fit64 {n : Nat} (h : n < 64) : n ≤ sizeLine := Nat.le_trans (Nat.le_of_lt h) (by decide)
section
variable {prog : Program} {w : World} {A : Around} {G B h : Heap} {g : Array GenState} {d : Drawn} {t : Nat} {o : OsState} {env : Env} {names : List Str} {vals : List V} {led : Led} {Q : Value → Shared → Prop}
theorem cSet {l : Addr} {ns : List Int} (hh : A.handled = none) (I : Sta G B env names vals led h) (hl : Has h l (LstR (ns.map .int))) (hsm : ∀ k ∈ ns, smallK k) (hb : ns.length + 1 < 4000)
    (c : ∀ r h' t', Sta G B env names vals ((r, SAt (byText w) ns) :: led) h' → Q (.ref r) ⟨h', g, d, t' + 1, o⟩) : W prog w A (call (.type "set") [.ref l]) Q ⟨h, g, d, t + 1, o⟩ := by
  obtain ⟨vs, hl', hv⟩ := hl.isListR
  refine W.tk (.of (call_set_ok (s := ⟨h, g, d, t + 1, o⟩) hh hl' hv.ints hsm hb fun h' tk ob ho hS hk hle => ?_))
  obtain ⟨tk, rfl⟩ := pos_ex hle
  exact c _ _ _ (I.pushK (fun b ob e => hk b ob (Heap.lt_size e) e) (none_size h) ho hS)
theorem cSortSet {a : Addr} {ns : List Int} (hh : A.handled = none) (I : Sta G B env names vals led h) (hS : Has h a (SAt (byText w) ns)) (good : goodP (setP true ns) = true) (hb : ns.length < 64)
    (c : ∀ D h' t' (ks : List Int), Sta G B env names vals ((D, Lst (ks.map .int)) :: led) h' → ks.Pairwise (· < ·) → (∀ k, k ∈ ks ↔ k ∈ ns) → Q (.ref D) ⟨h', g, d, t' + 1, o⟩) : W prog w A (call (.builtin "sorted") [.ref a]) Q ⟨h, g, d, t + 1, o⟩ := by
  obtain ⟨es, ep, tb, x, y⟩ := SAt.into hS good
  have hsz := y.size
  refine W.tk (.of (Calls.call_function_entry kind_sorted plain_sorted entry_sorted (args_sorted1 _) ?_))
  unfold Builtin.«sorted»
  refine wpAny_bind (m := checkCount "sorted" 1 1 _) (wpAny_pure ?_)
  refine wpAny_bind (kdu_collect (A := A.in1) src_set hh x (fit64 (by lia)) fun h1 tk acc hk hacc => ?_)
  have hvs : acc.toList = (seqOf w a es ep).toList.map (·.2) := by
    apply List.ext_getElem?
    intro i
    rw [List.getElem?_map, Array.getElem?_toList, Array.getElem?_toList]
    rcases Nat.lt_or_ge i es.size with q | q
    · have e1 : acc[i]? = some (acc[i]'(by rw [hacc.1]; exact q)) := Array.getElem?_eq_getElem _
      have := hacc.2 i _ e1
      unfold SetP at this
      rw [e1, this]
    · rw [Array.getElem?_eq_none (by rw [hacc.1]; exact q), Array.getElem?_eq_none (by rw [seq_size]; exact q)]; rfl
  have hp := seq_perm w a es ep
  have hI : IntsAre acc.toList ((seqOf w a es ep).toList.map fun e => keyOf e.2) := by
    rw [hvs]
    exact intsAre_map _ fun e he => (y.ent e (hp.mem_iff.mp he)).1
  have hpk : ((seqOf w a es ep).toList.map fun e => keyOf e.2).Perm (es.toList.map fun e => keyOf e.2) := hp.map _
  generalize (seqOf w a es ep).toList.map (fun e => keyOf e.2) = ks0 at hI hpk
  have h64 : acc.toList.length < 64 := by
    rw [Array.length_toList, hacc.1]
    lia
  refine wpAny_bind (wpAny_newList ?_ (fit64 h64))
  have hoL : (h1.push (seqObj "list" acc.toList.toArray 0)).get? h1.objs.size = some (seqObj "list" acc.toList.toArray 0) := Heap.get?_push_size _ rfl
  refine wpAny_bind (wpAny_holding (wpAny_call_entry slot_list_sort ⟨_, hoL, rfl⟩ entry_list_sort (list_sort_tree hoL hI h64 fun out ns' a1 a2 a3 => ⟨_, rfl, ?_⟩) (args_list_sort _)))
  refine wpAny_pure ⟨_, rfl, fun hle => ?_⟩
  obtain ⟨tk, rfl⟩ := pos_ex (show t + 1 ≤ tk from hle)
  have J := I.ext hk
  obtain ⟨e, he⟩ := sortedHeap_at (out := out) hoL
  have old : ∀ b ob, h1.get? b = some ob → (sortedHeap (h1.push (seqObj "list" acc.toList.toArray 0)) h1.objs.size acc.toList out).get? b = some ob := fun b ob eb => by
    have hlt := Heap.lt_size eb
    rw [sortedHeap_old (Nat.ne_of_lt hlt) (by rw [size_push']; exact Nat.lt_succ_of_lt hlt)]
    exact Heap.get?_push_of_some _ eb
  refine c _ _ _ ns' (J.pushK old (none_size h1) he ⟨_, _, rfl, Vals.ofInts a1⟩) (strict_of a3 ((a2.trans hpk).nodup_iff.mpr y.nod)) fun k => ?_
  rw [(a2.trans hpk).mem_iff, y.mem]
end
end Mine
end PartMSetD

section PartMLeaf
open PySem PySem.W PyProof.Rows
set_option autoImplicit false
set_option linter.unusedVariables false
namespace Mine

section
variable {prog : Program} {w : World} {A : Around} {s : Shared} {env : Env} {R : Value → Shared → Prop} {Q : Flow → Shared → Prop}
theorem xWhile {test : Expr} {body : List Stmt} {pos : Pos} (J : Nat → Shared → Prop) (n : Nat) (h0 : J n s)
    (turn : ∀ n s, J n s → W prog w A (isTrue test env (eval test env)) (fun b s₂ => if b = true then W prog w A (execs body env) (BodyPost (fun s₃ => ∃ m, m < n ∧ J m s₃) Q) s₂ else Q .next s₂) s) :
    W prog w A (exec (.While test body [] pos) env) Q s := by
  refine .of (wpAny_While (codeAny_whileLoop J (fun n s hJ => ?_) n h0))
  refine wpAny_mono (turn n s hJ).out (fun b s₂ q => ?_) fun _ _ q => q.elim
  cases b with
  | true =>
    simp only [if_true] at q ⊢
    refine wpAny_mono q.out (fun f s₃ q => ?_) fun _ _ q => q.elim
    cases f <;> exact q
  | false =>
    simp only [Bool.false_eq_true, if_false] at q ⊢
    exact wpAny_execs_nil q
end

section
variable {prog : Program} {w : World} {A : Around} {G B h : Heap} {g : Array GenState} {d : Drawn} {t : Nat} {o : OsState} {env : Env} {names : List Str} {vals : List V} {led : Led} {Q : Value → Shared → Prop} {ta tb u : Tok} {a b : Int}
/-- a, b = x, y : the stores in CPython's order -/
theorem xAssignSw {elts : List Expr} {k : Nat} {tpos pos : Pos} {value : Expr} (x1 x2 : Str) {s : Shared} {Q : Flow → Shared → Prop} (h : W prog w A (eval value env) (fun v s₁ => W prog w A (unpackItems v 2 none) (fun items s₂ => W prog w A (assignInOrder [fun v => bindName env x2 v, fun v => bindName env x1 v] items.reverse) (fun _ => Q .next) s₂) s₁) s)
    (hw : swappedStores [.Tuple elts k tpos] value env = pure (some [x1, x2]) := by kernel_rfl) (hs : swapsWithSole [.Tuple elts k tpos] value pos.line env = pure false := by kernel_rfl) : W prog w A (exec (.Assign [.Tuple elts k tpos] value pos) env) Q s :=
  .of (Assign_Tuple_swapped (names := [x1, x2]) (wpAny_mono h.out (fun _ _ q => wpAny_mono q.out (fun _ _ q => q.out) fun _ _ q => q) fun _ _ q => q) hs hw)
theorem unp {A : Around} {E : Value → Shared → Prop} {s : Shared} {T : Addr} {items : Array Value} {n : Nat} {Q : List Value → Shared → Prop} (hh : A.handled = none) (ht : s.heap.IsTuple T items) (hn : items.size = n)
    (hQ : ∀ h', Heap.ExtBut s.heap.objs.size s.heap h' → Q items.toList { s with heap := h' }) : wpAny (model prog w) A (unpackItems (.ref T) n none) Q E s := by
  subst hn
  obtain ⟨ob, e, c1, c2⟩ := ht
  exact unpackItems_tuple hh ⟨ob, e, c1, c2⟩ hQ
theorem uSw2 {T : Addr} {d1 d2 : V} {i1 i2 : Nat} {x1 x2 : Str} {R : Unit → Shared → Prop} (hh : A.handled = none) (I : Sta G B env names vals led h) (hT : Has h T (Tup [d1, d2])) (q1 : d1.proper) (q2 : d2.proper)
    (hi1 : nth names i1 = some x1) (hi2 : nth names i2 = some x2) (c : ∀ h' t', Sta G B env names (setAt (setAt vals i2 d2) i1 d1) led h' → R () ⟨h', g, d, t' + 1, o⟩) :
    W prog w A (unpackItems (.ref T) 2 none) (fun items s₂ => W prog w A (assignInOrder [fun v => bindName env x2 v, fun v => bindName env x1 v] items.reverse) R s₂) ⟨h, g, d, t + 1, o⟩ := by
  obtain ⟨vs, ht, hv⟩ := hT.isTuple
  cases hv with
  | cons d1 u1 hv =>
    cases hv with
    | cons d2 u2 hv =>
      cases hv
      refine .of (unp (s := ⟨h, g, d, t + 1, o⟩) hh ht rfl fun h₃ hx₃ => ?_)
      have I₃ : Sta G B env names vals led h₃ := I.ext fun b o e => hx₃ b o (Nat.ne_of_lt (Heap.lt_size e)) e
      show W prog w A (do holding [d1.val u1] (bindName env x2 (d2.val u2)); do holding [] (bindName env x1 (d1.val u1)); pure ()) _ _
      refine .of (wpAny_bind (wpAny_holding (bindName_ (W.out (store I₃ hi2 fun h₄ t₄ I₄ => ?_)))))
      refine wpAny_bind (wpAny_holding (bindName_ (W.out (store I₄ hi1 fun h₅ t₅ I₅ => wpAny_pure ?_))))
      rw [q1.of, q2.of] at I₅
      exact c _ _ I₅

/-- x op= e -/
theorem xAug {x : Str} {i : Nat} {v0 : V} {pos' pos : Pos} {op : Operator} {value : Expr} {Q : Flow → Shared → Prop} (I : Sta G B env names vals led h) (hi : nth names i = some x) (hv : nth vals i = some v0) (hu : v0 ≠ .unb)
    (k : ∀ u, W prog w A (eval value env) (fun v s₂ => W prog w A (inplaceOp op (v0.val u) v) (fun r s₃ => W prog w A (storeName env x r) (fun _ => Q .next) s₃) s₂) ⟨h, g, d, t, o⟩) :
    W prog w A (exec (.AugAssign (.Name x pos') op value pos) env) Q ⟨h, g, d, t, o⟩ := by
  obtain ⟨m, n, hm⟩ := I.loc
  obtain ⟨u, e⟩ := hm i x v0 hi hv hu
  exact .of (wpAny_AugAssign_Name (wpAny_loadName_local I.fn (I.kinds x (nth_mem hi)) n e (wpAny_mono (k u).out (fun _ _ q => wpAny_mono q.out (fun _ _ q => q.out) fun _ _ q => q) fun _ _ q => q)))

theorem iGe (c : Q (.bool (decide (b ≤ a))) ⟨h, g, d, t, o⟩) : W prog w A (compareOp .GtE (.int a ta) (.int b tb)) Q ⟨h, g, d, t, o⟩ := W.of (P.ge_int c)
theorem iGt (c : Q (.bool (decide (b < a))) ⟨h, g, d, t, o⟩) : W prog w A (compareOp .Gt (.int a ta) (.int b tb)) Q ⟨h, g, d, t, o⟩ := W.of (P.gt_int c)
theorem iRound {x : UInt64} (hh : A.handled = none) (hf : Float64.isFinite x = true) (c : ∀ u t', Q (.int (PySem.Flt.toInt Float64.nearestOf x) u) ⟨h, g, d, t' + 1, o⟩) : W prog w A (call (.builtin "round") [.float x ta]) Q ⟨h, g, d, t + 1, o⟩ := W.of (PySem.Flt.call_round_float hh (fun e => by
    have := hf; unfold Float64.isFinite at this; unfold Float64.isNaN at e; cases hd : Float64.decode x <;> simp [hd] at this e)
    (fun e => by have := hf; unfold Float64.isFinite at this; unfold Float64.isInf at e; cases hd : Float64.decode x <;> simp [hd] at this e) (fun _ => c _ _))

theorem nb (P : Params) : nsIn (KK P) cStatics sharingNotToldKey = some none := by kernel_rfl
theorem told_ok {P : Params} {A : Around} {E : Value → Shared → Prop} {s : Shared} {Q : Bool → Shared → Prop} (X : (KK P).In s.heap) (h : Q false s) : wpAny (model prog w) A (sharingNotTold ta) Q E s := by
  unfold sharingNotTold
  refine wpAny_bind (looks_nsIn X (nb P) A _ E s (fun _ _ e => e) ?_)
  exact wpAny_pure h
theorem same_ok {P : Params} {A : Around} {E : Value → Shared → Prop} {s : Shared} {b : Bool} {Q : Bool → Shared → Prop} (X : (KK P).In s.heap) (h : ∀ r, Q r s) : wpAny (model prog w) A (isSame.created b (ta + 1) (tb + 1)) Q E s := by
  unfold isSame.created
  refine wpAny_ite ?_
  split
  · rename_i q
    simp at q
  refine wpAny_ite ?_
  split
  · exact wpAny_pure (h _)
  refine wpAny_ite ?_
  split
  · exact wpAny_pure (h _)
  refine wpAny_bind (told_ok X ?_)
  simp only [Bool.false_eq_true, if_false]
  refine wpAny_bind (told_ok X ?_)
  simp only [Bool.false_eq_true, if_false]
  exact wpAny_bind (wpAny_rule (wpAny_bind (wpAny_askSetting (wpAny_pure (h _)))))
theorem eqF {P : Params} {A : Around} {s : Shared} {x y : UInt64} (X : (KK P).In s.heap) (h : (Float64.cmp x y == some Ordering.eq) = true) : PySem.SeqAt.EqAt A s (.float x (ta + 1)) (.float y (tb + 1)) true := fun prog w E Q hq => by
  unfold eqBool
  refine wpAny_holding ?_
  refine wpAny_ite_split (fun hab => ?_) (fun _ => ?_)
  · exact wpAny_bind (wpAny_rule (wpAny_pure hq))
  · refine wpAny_bind (m := isSame (.float x (ta + 1)) (.float y (tb + 1))) (same_ok X fun r => ?_)
    cases r with
    | true => exact wpAny_pure hq
    | false =>
      refine wpAny_bind (AutoFloatOps.eq_0 ?_)
      exact wpAny_truthy_bool (by rw [h]; exact hq)
/-- two tuples of floats, compared -/
theorem neF3 {P : Params} {x y : Addr} {a1 a2 a3 b1 b2 b3 : UInt64} (hx : Has h x (Tup [.float a1, .float a2, .float a3])) (hy : Has h y (Tup [.float b1, .float b2, .float b3])) (hu : A.units + 200 < cLine) (X : (KK P).In h)
    (h1 : (Float64.cmp a1 b1 == some Ordering.eq) = true) (h2 : (Float64.cmp a2 b2 == some Ordering.eq) = true) (h3 : (Float64.cmp a3 b3 == some Ordering.eq) = true) (c : Q (.bool false) ⟨h, g, d, t, o⟩) :
    W prog w A (compareOp .NotEq (.ref x) (.ref y)) Q ⟨h, g, d, t, o⟩ := by
  obtain ⟨vs, ht, hv⟩ := hx.isTuple
  obtain ⟨ws, ht', hw⟩ := hy.isTuple
  cases hv with
  | cons _ u1 hv => cases hv with
    | cons _ u2 hv => cases hv with
      | cons _ u3 hv =>
        cases hv
        cases hw with
        | cons _ t1 hw => cases hw with
          | cons _ t2 hw => cases hw with
            | cons _ t3 hw =>
              cases hw
              refine .of (PySem.SeqAt.RcNeAt.tuples (s := ⟨h, g, d, t, o⟩) (e := fun _ => true) ht ht' (by lia) (fun j j1 j2 => ?_) prog w _ _ ?_)
              · match j, j1 with
                | 0, _ => exact eqF X h1
                | 1, _ => exact eqF X h2
                | 2, _ => exact eqF X h3
                | j + 3, j1 => simp at j1; lia
              · exact c
theorem eqI {A : Around} {s : Shared} {x y : Int} (h : x = y) : PySem.SeqAt.EqAt A s (.int x ta) (.int y tb) true := by
  subst h
  have := PySem.SeqAt.EqAt.int_int (A := A) (s := s) x ta x tb
  simpa using this
/-- two tuples of ints that are the same -/
theorem neI2 {x y : Addr} {a1 a2 b1 b2 : Int} (hx : Has h x (Tup [.int a1, .int a2])) (hy : Has h y (Tup [.int b1, .int b2])) (hu : A.units + 200 < cLine) (h1 : a1 = b1) (h2 : a2 = b2) (c : Q (.bool false) ⟨h, g, d, t, o⟩) :
    W prog w A (compareOp .NotEq (.ref x) (.ref y)) Q ⟨h, g, d, t, o⟩ := by
  obtain ⟨vs, ht, hv⟩ := hx.isTuple
  obtain ⟨ws, ht', hw⟩ := hy.isTuple
  cases hv with
  | cons _ u1 hv => cases hv with
    | cons _ u2 hv =>
      cases hv
      cases hw with
      | cons _ t1 hw => cases hw with
        | cons _ t2 hw =>
          cases hw
          refine .of (PySem.SeqAt.RcNeAt.tuples (s := ⟨h, g, d, t, o⟩) (e := fun _ => true) ht ht' (by lia) (fun j j1 j2 => ?_) prog w _ _ ?_)
          · match j, j1 with
            | 0, _ => exact eqI h1
            | 1, _ => exact eqI h2
            | j + 2, j1 => simp at j1; lia
          · exact c
/-- T[k] of a tuple -/
theorem tTup {value slice : Expr} {T : Addr} {ds : List V} {k : Nat} {v : V} (hT : Has h T (Tup ds)) (hk : k < 100) (hv : ds[k]? = some v) (c : ∀ u', Q (v.val u') ⟨h, g, d, t, o⟩)
    (hs : subscripted slice false (.ref T) (.int k u) = operate [.ref T, .int k u] (getItem (.ref T) (.int k u)) := by with_unfolding_all rfl) : W prog w A (subscriptTail value slice (.ref T) (.int k u)) Q ⟨h, g, d, t, o⟩ := by
  obtain ⟨vs, ⟨ob, e, c1, c2⟩, hv'⟩ := hT.isTuple
  obtain ⟨u', e'⟩ := hv'.get hv
  have hlt : k < vs.length := (List.getElem?_eq_some_iff.mp e').1
  refine .of (item_tupleT (s := ⟨h, g, d, t, o⟩) (l := vs) (j := k) ⟨ob, e, c1, c2⟩ (by lia) (by lia) ?_ e' (c u') hs)
  unfold seqIndex?
  have e0 : ¬ ((k : Int) < 0) := by lia
  simp [e0, hlt]
theorem weight_small : ∀ ns : List Int, (∀ x ∈ ns, smallK x) → PyData.weightAll (ns.map PyData.int) ≤ 22 * ns.length
  | [], _ => by simp [PyData.weightAll]
  | x :: r, h => by
    have ih := weight_small r fun y hy => h y (.tail _ hy)
    obtain ⟨h1, h2⟩ := h x (.head _)
    have hw : PyData.weight (.int x) ≤ 20 := by
      unfold PyData.weight
      split
      · lia
      · rename_i q
        have h0 : x.natAbs ≠ 0 := by simp at q; lia
        have : x.natAbs.log2 < 20 := (Nat.log2_lt h0).mpr (by lia)
        lia
    simp only [List.map_cons, PyData.weightAll, List.length_cons]
    lia
theorem layable_small {ns : List Int} (h : ∀ x ∈ ns, smallK x) (hn : ns.length ≤ 100) : PyData.layable0 (.list (ns.map .int)) = true := by
  have hw := weight_small ns h
  unfold PyData.layable0
  simp only [PyData.canLay0, ke_canLayAll0, PyData.depth, ke_depthAll, PyData.weight, Bool.true_and, Bool.and_eq_true, decide_eq_true_eq]
  refine ⟨by decide, ?_⟩
  have h22 : 22 * ns.length ≤ 2200 := by lia
  exact decide_eq_true (Nat.le_trans hw (Nat.le_trans h22 (show 2200 ≤ 2 ^ 20 by decide)))
/-- xs.index(k) -/
theorem mIndex {l : Addr} {ds : List V} {pl : Sem Bool} {Q : Value × List Value → Shared → Prop} (hl : Has h l (Lst ds)) (c : Q (.builtin "list.index", [.ref l]) ⟨h, g, d, t, o⟩) : W prog w A (getMethod (.ref l) (Str.ofString "index") pl) Q ⟨h, g, d, t, o⟩ := by
  obtain ⟨vs, n, e, hv⟩ := hl.list
  refine .of (getMethod_list_of (s := ⟨h, g, d, t, o⟩) (items := vs) PySem.F.slot_list_index PySem.F.type_list_index ⟨_, e, rfl, n, rfl⟩ ?_ c)
  exact ⟨_, e, rfl⟩
theorem cIndex {l : Addr} {ns : List Int} {k : Int} (hl : Has h l (LstR (ns.map .int))) (hsm : ∀ x ∈ ns, smallK x) (hn : ns.length ≤ 100) (hk : k ∈ ns) (c : ∀ u t', Q (.int (ns.idxOf k : Nat) u) ⟨h, g, d, t' + 1, o⟩) : W prog w A (call (.builtin "list.index") ([.ref l] ++ [.int k u])) Q ⟨h, g, d, t + 1, o⟩ := by
  obtain ⟨vs, hl', hv⟩ := hl.isListR
  refine .of (index_list_ints (s := ⟨h, g, d, t + 1, o⟩) hl' hv.ints (layable_small hsm hn) hk (c _ _))

/- texts of two letters -/
def ab (l : List Nat) : Str := ⟨(l.map fun t => if t = 0 then 97 else 98).toArray⟩
theorem ab_len (l : List Nat) : (ab l).length = l.length := by simp [ab, Str.length]
theorem ab_app (l r : List Nat) : ab l ++ ab r = ab (l ++ r) := by
  show Str.append (ab l) (ab r) = _
  simp [ab, Str.append]
theorem ab_item : ∀ t : Nat, t < 2 → Txt.item (Str.ofString "ab") (t : Int) = ab [t]
  | 0, _ => by decide +kernel
  | 1, _ => by decide +kernel
  | t + 2, h => by lia
theorem sAdd {x y : Str} (hsz : x.length + y.length ≤ 1000) (c : ∀ u t', Q (.str (x ++ y) u) ⟨h, g, d, t' + 1, o⟩) : W prog w A (inplaceOp .Add (.str x ta) (.str y tb)) Q ⟨h, g, d, t + 1, o⟩ := W.tk (.of (PyProof.Rows.iadd_str (fun t' tk hle => by obtain ⟨m, rfl⟩ := pos_ex hle; exact c _ _) (Nat.le_trans hsz (by decide))))
theorem tAb {value slice : Expr} {k : Nat} (hk : k < 2) (c : ∀ u' t', Q (.str (ab [k]) u') ⟨h, g, d, t' + 1, o⟩)
    (hs : subscripted slice false (.str (Str.ofString "ab") ta) (.int k u) = operate [.str (Str.ofString "ab") ta, .int k u] (getItem (.str (Str.ofString "ab") ta) (.int k u)) := by with_unfolding_all rfl)
    (ht : ∀ r, letTemporaryGo value (.str (Str.ofString "ab") ta) r = pure () := by intro _; with_unfolding_all rfl) : W prog w A (subscriptTail value slice (.str (Str.ofString "ab") ta) (.int k u)) Q ⟨h, g, d, t + 1, o⟩ := by
  have hl : (Str.ofString "ab").length = 2 := by decide +kernel
  refine .of (PyProof.Rows.item_str (s := ⟨h, g, d, t + 1, o⟩) ?_ (by lia) (by rw [hl]; lia) (fun _ => ?_) hs ht)
  · match k, hk with
    | 0, _ => decide +kernel
    | 1, _ => decide +kernel
  · rw [ab_item k hk]; exact c _ _
theorem idx_to {j n : Nat} (hj : j ≤ n) : Builtin.Str.strSliceIndices none (some (j : Int)) 1 n = List.range j := by
  unfold Builtin.Str.strSliceIndices sliceRange
  simp only [show ¬ ((j : Int) < 0) by lia, if_false, show (1 : Int) > 0 by decide, if_true]
  have e : max (0 : Int) (min (j : Int) (n : Int)) = j := by lia
  rw [e]
  have ec : (if (0 : Int) < (j : Int) then ((j : Int) - 0 + 1 - 1) / 1 else 0).toNat = j := by
    split <;> simp <;> lia
  rw [ec]
  apply List.ext_getElem
  · simp
  · intro i h1 h2
    simp
theorem take_idx {α : Type} : ∀ (l : List α) (j : Nat), j ≤ l.length → (List.range j).filterMap (fun i => l[i]?) = l.take j
  | _, 0, _ => by simp
  | [], j + 1, h => by simp at h
  | a :: l, j + 1, h => by
    rw [List.range_succ_eq_map, List.filterMap_cons_some (b := a) (by simp), List.filterMap_map, List.take_succ_cons]
    congr 1
    have : ((fun i => (a :: l)[i]?) ∘ Nat.succ) = fun i => l[i]? := by funext i; simp
    rw [this]
    exact take_idx l j (by simpa using h)
theorem ab_take {l : List Nat} {j : Nat} (hj : j ≤ l.length) : Txt.slice (ab l) none (some (j : Int)) = ab (l.take j) := by
  unfold Txt.slice
  rw [ab_len, idx_to hj, List.length_range]
  split
  · rename_i q
    have : j = l.length := by simpa using q
    rw [this, List.take_length]
  · have : (List.range j).filterMap (fun i => (ab l).cps[i]?) = (l.take j).map fun t => if t = 0 then 97 else 98 := by
      have := take_idx (l.map fun t => if t = 0 then 97 else 98) j (by simpa using hj)
      rw [List.map_take, ← this]
      congr 1
      funext i
      simp [ab]
    rw [this]
    rfl
theorem tSliceAb {value slice : Expr} {l : List Nat} {j : Nat} {tx tj : Tok} (I : Sta G B env names vals led h) (hl : l.length ≤ 1000) (hj : j ≤ l.length) (c : ∀ u' h' t', Sta G B env names vals led h' → Q (.str (ab (l.take j)) u') ⟨h', g, d, t' + 1, o⟩)
    (hs : subscripted slice false (.str (ab l) tx) (.ref h.objs.size) = operate [.ref h.objs.size, .str (ab l) tx] (getItem (.str (ab l) tx) (.ref h.objs.size)) := by with_unfolding_all rfl)
    (ht : ∀ r, letTemporaryGo value (.str (ab l) tx) r = pure () := by intro _; with_unfolding_all rfl) :
    W prog w A (subscriptTail value slice (.str (ab l) tx) (.ref h.objs.size)) Q ⟨h.push { cls := .type "slice", data := .fields #[.none, .int j tj, .none] }, g, d, t + 1, o⟩ := by
  obtain ⟨m, F, N, k⟩ := I.fr
  refine W.tk (.of (slice_strN_ns (s := ⟨h, g, d, t + 1, o⟩) F N (fun h' t' tk F' N' hle => ?_) hs ht (by rw [ab_len]; exact Nat.le_trans hl (by decide))))
  obtain ⟨tk, rfl⟩ := pos_ex (show t + 1 ≤ tk from hle)
  rw [ab_take hj]
  exact c _ _ _ (k h' [] F' N').2
/-- list(text) -/
theorem cListAb {l : List Nat} {tx : Tok} (hh : A.handled = none) (I : Sta G B env names vals led h) (hl : l.length ≤ 1000)
    (c : ∀ D h' t', Sta G B env names vals ((D, Lst (l.map fun x => V.str (ab [x]))) :: led) h' → Q (.ref D) ⟨h', g, d, t' + 1, o⟩) : W prog w A (call (.type "list") [.str (ab l) tx]) Q ⟨h, g, d, t + 1, o⟩ := by
  have hz : (ab l).cps.size = l.length := ab_len l
  refine W.tk (.of (call_list_str (s := ⟨h, g, d, t + 1, o⟩) hh (ab l) tx (fun h' tk acc' c' hk hD hacc hle => ?_) (by rw [hz]; exact Nat.le_trans hl (by decide))))
  obtain ⟨tk, rfl⟩ := pos_ex (show t + 1 ≤ tk from hle)
  refine c _ _ _ (I.pushK hk (none_size _) hD ⟨_, _, rfl, ?_⟩)
  have key : ∀ (vs : List Value) (l : List Nat), vs.length = l.length → (∀ (j : Nat) (v : Value), vs[j]? = some v → ∃ c u, (l.map fun t => if t = 0 then 97 else 98)[j]? = some c ∧ v = Value.str ⟨#[c]⟩ u) → Vals vs (l.map fun x => V.str (ab [x])) := by
    intro vs
    induction vs with
    | nil => intro l hl _; cases l with | nil => exact .nil | cons _ _ => cases hl
    | cons v r ih =>
      intro l hl hv
      cases l with
      | nil => cases hl
      | cons x xs =>
        obtain ⟨c, u, e, rfl⟩ := hv 0 v rfl
        have e' : c = if x = 0 then 97 else 98 := by simpa using e.symm
        subst e'
        exact .cons (V.str (ab [x])) u (ih xs (by simpa using hl) fun j v hj => by
          have := hv (j + 1) v hj
          simpa using this)
  refine key acc'.toList l (by rw [Array.length_toList, hacc.1, hz]) fun j v hv => ?_
  obtain ⟨c, u, e, q⟩ := hacc.2 j v (by rw [← Array.getElem?_toList]; exact hv)
  refine ⟨c, u, ?_, q⟩
  rw [← Array.getElem?_toList] at e
  simpa [ab] using e
end
end Mine
end PartMLeaf

section PartMFok
open PySem PySem.W PyProof.Rows
set_option autoImplicit false
namespace Mine
def fq (p q : Nat) : UInt64 := Float64.ofFrac false p q
def fRow (N p : Nat) (s v : UInt64) : Bool :=
  let x := fq p N
  let c := hsvRGB x s v
  let r := c.1
  let g := c.2.1
  let b := c.2.2
  let mx := fmax3 r g b
  let mn := fmin3 r g b
  let hue := hueOf r g b
  !feq s c0 && Float64.isFinite (Float64.mul x c6) && decide ((hsvI x).natAbs < 1000) && !feq mn mx && !Float64.isZero (Float64.sub mx mn) && !Float64.isZero mx && !Float64.isZero (Float64.add mx mn)
    && (!Float64.isZero (Float64.sub (Float64.sub c2 mx) mn) || fle (Float64.div (Float64.add mx mn) c2) ch)
    && (Float64.cmp (satOf r g b) s == some Ordering.eq) && (Float64.cmp mx v == some Ordering.eq) && (Float64.cmp hue hue == some Ordering.eq)
    && Float64.isFinite (Float64.mul hue (Float64.ofInt N)) && ((PySem.Flt.toInt Float64.nearestOf (Float64.mul hue (Float64.ofInt N))).fmod N == ((p % N : Nat) : Int))
def fOK (N p a b : Nat) : Bool := fRow N p (fq (1 + a) 4) (fq (1 + b) 4)

end Mine
end PartMFok

section PartMFokA
open PySem PySem.W PyProof.Rows
set_option autoImplicit false
namespace Mine
/-- a number, worked out ahead of its use -/
noncomputable def foN {α : Type} (n : Nat) (k : Nat → α) : α := Nat.rec (motive := fun _ => α) (k 0) (fun m _ => k (m + 1)) n
theorem foN_eq {α : Type} (n : Nat) (k : Nat → α) : foN n k = k n := by cases n <;> rfl
noncomputable def foU {α : Type} (x : UInt64) (k : UInt64 → α) : α := foN x.toNat fun n => k (UInt64.ofNat n)
theorem foU_eq {α : Type} (x : UInt64) (k : UInt64 → α) : foU x k = k x := by unfold foU; rw [foN_eq, UInt64.ofNat_toNat]
noncomputable def foI {α : Type} (i : Int) (k : Int → α) : α := Int.rec (motive := fun _ => α) (fun n => foN n fun n => k (.ofNat n)) (fun n => foN n fun n => k (.negSucc n)) i
theorem foI_eq {α : Type} (i : Int) (k : Int → α) : foI i k = k i := by cases i <;> (unfold foI; simp only [foN_eq])
noncomputable def rgbF {α : Type} (x s v : UInt64) (k : UInt64 → UInt64 → UInt64 → α) : α :=
  foI (hsvI x) fun i =>
  foU (Float64.sub (Float64.mul x c6) (Float64.ofInt i)) fun f =>
  foU (Float64.mul v (Float64.sub c1 s)) fun p =>
  foU (Float64.mul v (Float64.sub c1 (Float64.mul s f))) fun q =>
  foU (Float64.mul v (Float64.sub c1 (Float64.mul s (Float64.sub c1 f)))) fun t =>
  foI (i.fmod 6) fun j =>
  if (j == 0) = true then k v t p else if (j == 1) = true then k q v p else if (j == 2) = true then k p v t
  else if (j == 3) = true then k p q v else if (j == 4) = true then k t p v else k v p q
theorem rgbF_eq {α : Type} (x s v : UInt64) (k : UInt64 → UInt64 → UInt64 → α) : rgbF x s v k = k (hsvRGB x s v).1 (hsvRGB x s v).2.1 (hsvRGB x s v).2.2 := by
  unfold rgbF hsvRGB
  simp only [foU_eq, foI_eq]
  repeat' split
  all_goals rfl
noncomputable def hueF (r g b mx rng : UInt64) : UInt64 :=
  foU (Float64.div (Float64.sub mx r) rng) fun rc =>
  foU (Float64.div (Float64.sub mx g) rng) fun gc =>
  foU (Float64.div (Float64.sub mx b) rng) fun bc =>
  foU (if feq r mx = true then Float64.sub bc gc else if feq g mx = true then Float64.sub (Float64.add c2 rc) bc else Float64.sub (Float64.add c4 gc) rc) fun h =>
  foU (Float64.div h c6) fun h6 => (Float64.divmod h6 c1).2
noncomputable def rowF (N p : Nat) (x s v : UInt64) : Bool :=
  rgbF x s v fun r g b => foU (fmax3 r g b) fun mx => foU (fmin3 r g b) fun mn => foU (Float64.sub mx mn) fun rng => foU (hueF r g b mx rng) fun hue => foU (Float64.add mx mn) fun sm =>
  !feq s c0 && Float64.isFinite (Float64.mul x c6) && decide ((hsvI x).natAbs < 1000) && !feq mn mx && !Float64.isZero rng && !Float64.isZero mx && !Float64.isZero sm
    && (!Float64.isZero (Float64.sub (Float64.sub c2 mx) mn) || fle (Float64.div sm c2) ch)
    && (Float64.cmp (Float64.div rng mx) s == some Ordering.eq) && (Float64.cmp mx v == some Ordering.eq) && (Float64.cmp hue hue == some Ordering.eq)
    && foU (Float64.mul hue (Float64.ofInt N)) fun hN => Float64.isFinite hN && ((PySem.Flt.toInt Float64.nearestOf hN).fmod N == ((p % N : Nat) : Int))
theorem rowF_eq (N p : Nat) (s v : UInt64) : rowF N p (fq p N) s v = fRow N p s v := by
  unfold rowF fRow
  simp only [rgbF_eq, foU_eq]
  unfold hueF hueOf satOf
  simp only [foU_eq, Bool.and_assoc]
noncomputable def colF (N : Nat) (s v : UInt64) : Bool := (List.range (2 * N)).all fun p => foU (fq p N) fun x => rowF N p x s v
noncomputable def allF (N : Nat) : Bool := (List.range 4).all fun a => foU (fq (1 + a) 4) fun s => (List.range 4).all fun b => foU (fq (1 + b) 4) fun v => colF N s v
theorem allF4 : allF 4 = true := by decide +kernel
theorem allF5 : allF 5 = true := by decide +kernel
theorem allF6 : allF 6 = true := by decide +kernel
theorem allF7 : allF 7 = true := by decide +kernel
theorem allF8 : allF 8 = true := by decide +kernel
theorem allF_get {N : Nat} (h : allF N = true) {p a b : Nat} (hp : p < 2 * N) (ha : a < 4) (hb : b < 4) : fOK N p a b = true := by
  have h1 := List.all_eq_true.mp h a (List.mem_range.mpr ha)
  rw [foU_eq] at h1
  have h2 := List.all_eq_true.mp h1 b (List.mem_range.mpr hb)
  rw [foU_eq] at h2
  have h3 := List.all_eq_true.mp h2 p (List.mem_range.mpr hp)
  rw [foU_eq, rowF_eq] at h3
  exact h3
theorem fOK_all {N p a b : Nat} (h4 : 4 ≤ N) (h8 : N ≤ 8) (hp : p < 2 * N) (ha : a < 4) (hb : b < 4) : fOK N p a b = true := by
  have : N = 4 ∨ N = 5 ∨ N = 6 ∨ N = 7 ∨ N = 8 := by lia
  rcases this with e | e | e | e | e <;> subst e
  · exact allF_get allF4 hp ha hb
  · exact allF_get allF5 hp ha hb
  · exact allF_get allF6 hp ha hb
  · exact allF_get allF7 hp ha hb
  · exact allF_get allF8 hp ha hb
end Mine
end PartMFokA

section PartMLawA
open PySem PySem.W PyProof.Rows
set_option autoImplicit false
set_option linter.unusedVariables false
namespace Mine

noncomputable abbrev lawB (w : World) : List Stmt := bodyOf w.params 115
def lawNames : List Str := [Str.ofString "script", Str.ofString "cells", Str.ofString "first", Str.ofString "look", Str.ofString "steps", Str.ofString "tail", Str.ofString "row", Str.ofString "share", Str.ofString "level", Str.ofString "turns", Str.ofString "heads", Str.ofString "place", Str.ofString "red", Str.ofString "green", Str.ofString "blue", Str.ofString "hue", Str.ofString "seen", Str.ofString "bright", Str.ofString "turn", Str.ofString "head", Str.ofString "kept", Str.ofString "k", Str.ofString "count", Str.ofString "shift", Str.ofString "ways", Str.ofString "left", Str.ofString "ring", Str.ofString "rounds", Str.ofString "words", Str.ofString "start", Str.ofString "spot", Str.ofString "laps", Str.ofString "word", Str.ofString "rank", Str.ofString "base", Str.ofString "low", Str.ofString "high", Str.ofString "due", Str.ofString "numbers", Str.ofString "signs"]
theorem d115 (P : Params) : DefC P 115 [Str.ofString "script"] lawNames where
  at_ := by kernel_rfl
  body := by kernel_rfl
  code := by kernel_rfl
  co := by kernel_rfl
  gen := by kernel_rfl
  clos := by kernel_rfl
  fn := by kernel_rfl
  kind := by kernel_rfl
  loc := by kernel_rfl
  nod := by decide +kernel
theorem lawKinds (w : World) (L : Addr) {l : List Str} (h : (l.all fun x => lawNames.contains x) = true) : ∀ x ∈ l, (cenvC w 115 L).kindOf x = some .local := fun x hx =>
  beq_local (List.all_eq_true.mp (d115 w.params).loc x (by
    have := List.all_eq_true.mp h x hx
    simpa using this))

abbrev nA : List Str := [Str.ofString "place", Str.ofString "share", Str.ofString "level", Str.ofString "turns", Str.ofString "heads", Str.ofString "red", Str.ofString "green", Str.ofString "blue", Str.ofString "hue", Str.ofString "seen", Str.ofString "bright", Str.ofString "turn", Str.ofString "head"]
theorem ofInt_cast (n : Nat) : Float64.ofInt ((n : Nat) : Int) = Float64.ofInt (n : Int) := rfl

section
variable {prog : Program} {w : World} {A : Around} {G B h : Heap} {g : Array GenState} {d : Drawn} {t : Nat} {o : OsState} {mg mb : Str → Option Value} {L : Addr}
theorem fq_div (p q : Nat) (hq : 0 < q) : Float64.ofFrac (decide ((p : Int) < 0) != decide ((q : Int) < 0)) (p : Int).natAbs (q : Int).natAbs = fq p q := by
  have e1 : decide ((p : Int) < 0) = false := by simp
  have e2 : decide ((q : Int) < 0) = false := by simp
  rw [e1, e2]; rfl

theorem segA (gg : GG w G mg mb) (hh : A.handled = none) (hu : A.units + 300 < cLine) (hroom : A.depth + 200 < recursionLimit) {N a b : Nat} {im : List Nat} {ia tl hl : Addr} {v0 : V} (D : Deg N im) (hf : ∀ p, p < 2 * N → fOK N p a b = true)
    (I : Sta G B (cenvC w 115 L) nA [v0, .float (fq (1 + a) 4), .float (fq (1 + b) 4), .ref tl, .ref hl, .unb, .unb, .unb, .unb, .unb, .unb, .unb, .unb] [(tl, Lst []), (hl, Lst []), (ia, LstR (iv im)), (L + 1, Cel (.int N)), (L + 1 + 1, Cel (.ref ia))] h)
    {Q : Flow → Shared → Prop}
    (next : ∀ h' t' vs, Sta G B (cenvC w 115 L) nA vs [(tl, Lst (iv (im.map (· / N)))), (hl, Lst (iv (im.map (· % N)))), (ia, LstR (iv im)), (L + 1, Cel (.int N)), (L + 1 + 1, Cel (.ref ia))] h' → nth vs 3 = some (.ref tl) → nth vs 4 = some (.ref hl) → W prog w A (execs ((lawB w).drop 14) (cenvC w 115 L)) Q ⟨h', g, d, t' + 1, o⟩) :
    W prog w A (execs ((lawB w).drop 13) (cenvC w 115 L)) Q ⟨h, g, d, t + 1, o⟩ := by
  have hN8 := D.h8
  have hN4 := D.h4
  have hl8 : im.length ≤ 8 := by rw [D.len]; exact hN8
  refine xCons ?_
  refine xFor ?_
  refine lC (I.has (i := 4) rfl) fun _ => ?_
  refine pIterL I (I.has (i := 2) rfl) fun it h1 I1 => ?_
  have hlen : (iv im).length = im.length := by simp
  refine loop (ix := 0) (iterL (A := A) hh it ia (iv im) (by intro v hv; obtain ⟨z, _, rfl⟩ := List.mem_map.mp hv; trivial)) rfl
    (fun i vs ld => Ex9 fun v0 v5 v6 v7 v8 v9 v10 v11 v12 => vs = [v0, .float (fq (1 + a) 4), .float (fq (1 + b) 4), .ref tl, .ref hl, v5, v6, v7, v8, v9, v10, v11, v12] ∧
      ld = [(tl, Lst (iv ((im.take i).map (· / N)))), (hl, Lst (iv ((im.take i).map (· % N)))), (ia, LstR (iv im)), (L + 1, Cel (.int N)), (L + 1 + 1, Cel (.ref ia))])
    I1 ⟨_, _, _, _, _, _, _, _, _, rfl, rfl⟩ ?_ ?_ ?_
  · rintro i vs ld h' ⟨_, _, _, _, _, _, _, _, _, rfl, rfl⟩ J
    exact J.has (i := 2) rfl
  · rintro i v vs ld h' t' hi hv ⟨_, _, _, _, _, _, _, _, _, rfl, rfl⟩ J
    refine W.gen fun QQ hQQ => ?_
    rw [hlen] at hi
    obtain ⟨p, hp, ev⟩ : ∃ p, im[i]? = some p ∧ v = V.int (p : Nat) := by
      refine ⟨im[i], by simp [hi], ?_⟩
      simp only [iv, List.getElem?_map, List.getElem?_eq_getElem hi, Option.map_some] at hv
      exact (Option.some.inj hv).symm
    subst ev
    have hpl : p < 2 * N := D.lt p (List.mem_of_getElem? hp)
    simp only [setAt] at J
    have ok := hf p hpl
    unfold fOK fRow at ok
    simp only [Bool.and_eq_true, Bool.not_eq_true', Bool.or_eq_true, decide_eq_true_eq] at ok
    obtain ⟨⟨⟨⟨⟨⟨⟨⟨⟨⟨⟨⟨k1, k2⟩, k3⟩, k4⟩, k5⟩, k6⟩, k7⟩, k8⟩, k9⟩, k10⟩, k11⟩, k12⟩, k13⟩ := ok
    refine xCons ?_
    refine xAssignT ?_
    refine xCall ?_
    refine gload gg J.glob (n_hsv_to_rgb _) ?_
    refine xDef (ob := fnObj w.params 35) rfl ?_
    refine xArg ?_
    refine xBin ?_
    refine lI J (i := 0) rfl rfl fun _ => ?_
    refine lC (J.has (i := 4) rfl) fun _ => ?_
    refine iiDiv hh (Nat.lt_of_lt_of_le (show ((p : Nat) : Int).natAbs < 16 by lia) (by decide)) (by lia) fun _ _ => ?_
    rw [fq_div p N (by lia)]
    refine xArg ?_
    refine lF J (i := 1) rfl rfl fun _ => ?_
    refine xArg ?_
    refine lF J (i := 2) rfl rfl fun _ => ?_
    refine xArgs ⟨J.glob.keep _ _ (gg.X 35 _ (by kernel_rfl)), ?_⟩
    refine hsv_to_rgb_ok gg J.glob (by lia) hh k1 k2 (Nat.lt_of_lt_of_le k3 (by decide)) fun h2 t2 r2 K2 G2 f2 x2 => ?_
    have J2 := J.back K2 G2
    refine aTup3 (i1 := 5) (i2 := 6) (i3 := 7) hh J2 x2 trivial trivial trivial rfl rfl rfl fun h3 t3 J3 => ?_
    simp only [setAt] at J3
    generalize hrr : (hsvRGB (fq p N) (fq (1 + a) 4) (fq (1 + b) 4)).1 = rr at *
    generalize hgv : (hsvRGB (fq p N) (fq (1 + a) 4) (fq (1 + b) 4)).2.1 = gv at *
    generalize hbb : (hsvRGB (fq p N) (fq (1 + a) 4) (fq (1 + b) 4)).2.2 = bb at *
    refine xCons ?_
    refine xAssignT ?_
    refine xCall ?_
    refine gload gg J3.glob (n_rgb_to_hsv _) ?_
    refine xDef (ob := fnObj w.params 28) rfl ?_
    refine xArg ?_
    refine lF J3 (i := 5) rfl rfl fun _ => ?_
    refine xArg ?_
    refine lF J3 (i := 6) rfl rfl fun _ => ?_
    refine xArg ?_
    refine lF J3 (i := 7) rfl rfl fun _ => ?_
    refine xArgs ⟨J3.glob.keep _ _ (gg.X 28 _ (by kernel_rfl)), ?_⟩
    refine rgb_to_hsv_ok gg J3.glob (by lia) hh k4 k5 k6 fun h4 t4 r4 K4 G4 f4 x4 => ?_
    have J4 := J3.back K4 G4
    refine aTup3 (i1 := 8) (i2 := 9) (i3 := 10) hh J4 x4 trivial trivial trivial rfl rfl rfl fun h5 t5 J5 => ?_
    simp only [setAt] at J5
    refine xCons ?_
    refine xIf ?_
    refine xTest ?_
    refine xTuple ?_
    refine xArg ?_
    refine lF J5 (i := 9) rfl rfl fun _ => ?_
    refine xArg ?_
    refine lF J5 (i := 10) rfl rfl fun _ => ?_
    refine xArg ?_
    refine xSub ?_
    refine xCall ?_
    refine gload gg J5.glob (n_rgb_to_hls _) ?_
    refine xDef (ob := fnObj w.params 21) rfl ?_
    refine xArg ?_
    refine lF J5 (i := 5) rfl rfl fun _ => ?_
    refine xArg ?_
    refine lF J5 (i := 6) rfl rfl fun _ => ?_
    refine xArg ?_
    refine lF J5 (i := 7) rfl rfl fun _ => ?_
    refine xArgs ⟨J5.glob.keep _ _ (gg.X 21 _ (by kernel_rfl)), ?_⟩
    refine rgb_to_hls_ok gg J5.glob (by lia) hh k4 k5 k7 k8 fun h6 t6 r6 K6 G6 f6 x6 => ?_
    have J6 := J5.back K6 G6
    obtain ⟨o6, e6, l6, s6, p6⟩ := x6
    refine cInt fun _ _ => ?_
    refine tTup (k := 0) (v := V.float (hueOf rr gv bb)) ⟨o6, e6, p6⟩ (by lia) rfl fun _ => ?_
    refine xArgs ?_
    refine mkTuple J6 rfl fun r7 h7 J7 => ?_
    refine xTuple ?_
    refine xArg ?_
    refine lF J7 (i := 1) rfl rfl fun _ => ?_
    refine xArg ?_
    refine lF J7 (i := 2) rfl rfl fun _ => ?_
    refine xArg ?_
    refine lF J7 (i := 8) rfl rfl fun _ => ?_
    refine xArgs ?_
    refine mkTuple J7 rfl fun r8 h8 J8 => ?_
    refine neF3 (P := w.params) (J8.has (i := 1) rfl) (J8.has (i := 0) rfl) (by lia) (fun a ob e => J8.glob.keep _ _ (gg.X a ob e)) k9 k10 k11 ?_
    refine tBool ?_
    refine br_f rfl ?_
    refine xNil ?_
    have J8 := J8.tail.tail
    refine xCons ?_
    refine xAssignT ?_
    refine xCall ?_
    refine gload gg J8.glob (n_int_divmod _) ?_
    refine xDef (ob := fnObj w.params 77) rfl ?_
    refine xArg ?_
    refine lI J8 (i := 0) rfl rfl fun _ => ?_
    refine xArg ?_
    refine lC (J8.has (i := 4) rfl) fun _ => ?_
    refine xArgs ⟨J8.glob.keep _ _ (gg.X 77 _ (by kernel_rfl)), ?_⟩
    refine int_divmod_ok gg J8.glob (by lia) hh (by lia) (by lia) (by lia) fun h9 t9 r9 K9 G9 f9 x9 => ?_
    have J9 := J8.back K9 G9
    refine aTup2 (i1 := 11) (i2 := 12) hh J9 x9 trivial trivial rfl rfl fun h10 t10 J10 => ?_
    simp only [setAt] at J10
    refine xCons ?_
    refine xIf ?_
    refine xOr ?_
    refine xTest ?_
    refine xTuple ?_
    refine xArg ?_
    refine lI J10 (i := 11) rfl rfl fun _ => ?_
    refine xArg ?_
    refine lI J10 (i := 12) rfl rfl fun _ => ?_
    refine xArgs ?_
    refine mkTuple J10 rfl fun r11 h11 J11 => ?_
    refine xTuple ?_
    refine xArg ?_
    refine xBin ?_
    refine lI J11 (i := 0) rfl rfl fun _ => ?_
    refine lC (J11.has (i := 5) rfl) fun _ => ?_
    refine iDiv (by lia) (noPl (by lia)) fun _ _ => ?_
    refine xArg ?_
    refine xBin ?_
    refine lI J11 (i := 0) rfl rfl fun _ => ?_
    refine lC (J11.has (i := 5) rfl) fun _ => ?_
    refine iMod hh (by lia) fun _ _ => ?_
    refine xArgs ?_
    refine mkTuple J11 rfl fun r12 h12 J12 => ?_
    refine neI2 (J12.has (i := 1) rfl) (J12.has (i := 0) rfl) (by lia) (fdivN p N).symm (fmodN p N).symm ?_
    refine tBool ?_
    refine br_f rfl ?_
    have J12 := J12.tail.tail
    refine xOr ?_
    refine xTest ?_
    refine xBin ?_
    refine xCall ?_
    refine bload gg J12.glob (b_round _) ?_
    refine xBuiltin ?_
    refine xArg ?_
    refine xBin ?_
    refine lF J12 (i := 8) rfl rfl fun _ => ?_
    refine lC (J12.has (i := 4) rfl) fun _ => ?_
    refine fiMul (Nat.lt_of_lt_of_le (show ((N : Nat) : Int).natAbs < 16 by lia) (by decide)) fun _ _ => ?_
    refine xArgs ?_
    refine iRound hh k12 fun _ _ => ?_
    refine lC (J12.has (i := 4) rfl) fun _ => ?_
    refine iMod hh (by lia) fun _ _ => ?_
    refine lI J12 (i := 12) rfl rfl fun _ => ?_
    refine iNe ?_
    refine tBool ?_
    have e13 := eq_of_beq k13
    refine br_f (by rw [e13]; simp) ?_
    refine xOr0 ?_
    refine br_f rfl ?_
    refine xNil ?_
    refine xCons ?_
    refine xExpr ?_
    refine xMeth ?_
    refine lR J12 (i := 3) rfl rfl ?_
    refine mAppend (J12.has (i := 1) rfl) ?_
    refine xMeth1 ?_
    refine xArg ?_
    refine lI J12 (i := 11) rfl rfl fun _ => ?_
    refine xArgs ?_
    refine cAppend J12 (i := 1) rfl (fit64 (by simp; lia)) fun h13 J13 => ?_
    simp only [setAt] at J13
    refine xCons ?_
    refine xExpr ?_
    refine xMeth ?_
    refine lR J13 (i := 4) rfl rfl ?_
    refine mAppend (J13.has (i := 2) rfl) ?_
    refine xMeth1 ?_
    refine xArg ?_
    refine lI J13 (i := 12) rfl rfl fun _ => ?_
    refine xArgs ?_
    refine cAppend J13 (i := 2) rfl (fit64 (by simp; lia)) fun h14 J14 => ?_
    simp only [setAt] at J14
    refine xNil ?_
    refine hQQ _ _ ⟨h14, _, _, _, rfl, J14, _, _, _, _, _, _, _, _, _, rfl, ?_⟩
    have et : im.take (i + 1) = im.take i ++ [p] := by
      rw [List.take_add_one, hp]; rfl
    rw [et]
    simp [iv, V.of]
  · rintro vs ld h' t' ⟨_, _, _, _, _, _, _, _, _, rfl, rfl⟩ J
    rw [hlen, List.take_length] at J
    exact next _ _ _ J rfl rfl
end
end Mine
end PartMLawA

section PartMLawC
open PySem PySem.W PyProof.Rows
set_option autoImplicit false
set_option linter.unusedVariables false
namespace Mine

def RangeO (n : Nat) (o : Obj) : Prop := ∃ t u v : Tok, o = { cls := .type "range", data := .fields #[.int 0 t, .int n u, .int 1 v] }
section
variable {prog : Program} {w : World} {A : Around} {G B h : Heap} {g : Array GenState} {d : Drawn} {t : Nat} {o : OsState} {env : Env} {names : List Str} {vals : List V} {led : Led} {Q : Value → Shared → Prop} {u : Tok}
theorem cRangeO {n : Nat} (I : Sta G B env names vals led h) (c : ∀ r h' t', Sta G B env names vals ((r, RangeO n) :: led) h' → Q (.ref r) ⟨h', g, d, t' + 1, o⟩) : W prog w A (call (.type "range") [.int n u]) Q ⟨h, g, d, t + 1, o⟩ :=
  .of (call_range_1 (c _ _ _ (I.pushK (fun _ _ e => Heap.get?_push_of_some _ e) (none_size h) (Heap.get?_push_size _ rfl) ⟨_, _, _, rfl⟩)))
theorem cListR {r : Addr} {n : Nat} (hh : A.handled = none) (I : Sta G B env names vals led h) (hr : Has h r (RangeO n)) (hn : n < 1000)
    (c : ∀ D h' t', Sta G B env names vals ((D, Lst (iv (List.range n))) :: led) h' → Q (.ref D) ⟨h', g, d, t' + 1, o⟩) : W prog w A (call (.type "list") [.ref r]) Q ⟨h, g, d, t + 1, o⟩ := by
  obtain ⟨_, er, t1, t2, t3, rfl⟩ := hr
  refine W.tk (W.of (call_list_range (s := ⟨h, g, d, t + 1, o⟩) hh (show IsRange _ _ _ _ _ _ _ _ from er) (n := n) (small_one (by decide) (by decide) (by lia) (by lia)) ?_ (by lia) fun h' tk acc' c' hk hD hacc hle => ?_))
  · rw [rangeSize_nat]; lia
  · obtain ⟨tk, rfl⟩ := pos_ex (show t + 1 ≤ tk from hle)
    refine c _ _ _ (I.pushK hk (none_size _) hD ⟨_, _, rfl, ?_⟩)
    have key : ∀ (l : List Value) (k : Nat), (∀ (j : Nat) (v : Value), l[j]? = some v → ∃ t : Tok, v = Value.int ((k + j : Nat) : Int) t) → Vals l (iv (List.range' k l.length)) := by
      intro l
      induction l with
      | nil => intro k _; exact .nil
      | cons v r ih =>
        intro k hl
        obtain ⟨tk, rfl⟩ := hl 0 v rfl
        have := ih (k + 1) fun j v hv => by
          obtain ⟨tt, q⟩ := hl (j + 1) v hv
          exact ⟨tt, by rw [q]; congr 2; lia⟩
        exact .cons (V.int ((k + 0 : Nat) : Int)) tk this
    have := key acc'.toList 0 fun j v hv => by
      obtain ⟨tt, q⟩ := hacc.2 j v (by rw [← Array.getElem?_toList]; exact hv)
      exact ⟨tt, by rw [q]; congr 1; lia⟩
    rw [Array.length_toList, hacc.1] at this
    rw [List.range_eq_range']
    exact this
end

theorem iv_int (l : List Nat) : iv l = (l.map fun (i : Nat) => (i : Int)).map V.int := by simp [iv]
theorem nats_of {l : List Int} (h : ∀ k ∈ l, 0 ≤ k) : (l.map Int.toNat).map (fun (i : Nat) => (i : Int)) = l := by
  rw [List.map_map]
  conv => rhs; rw [← List.map_id l]
  refine List.map_congr_left fun k hk => ?_
  have := h k hk
  simp only [Function.comp, id]
  lia

abbrev nB : List Str := [Str.ofString "turns", Str.ofString "heads", Str.ofString "kept", Str.ofString "k"]
/-- the ledger of the law behind its first loop -/
abbrev ledL (N : Nat) (im : List Nat) (tl hl ia L : Addr) : Led := [(tl, Lst (iv (im.map (· / N)))), (hl, Lst (iv (im.map (· % N)))), (ia, LstR (iv im)), (L + 1, Cel (.int N)), (L + 1 + 1, Cel (.ref ia))]
section
variable {prog : Program} {w : World} {A : Around} {G B h : Heap} {g : Array GenState} {d : Drawn} {t : Nat} {o : OsState} {mg mb : Str → Option Value} {L : Addr}
theorem segB (gg : GG w G mg mb) (hh : A.handled = none) (hroom : A.depth + 200 < recursionLimit) {N : Nat} {im : List Nat} {ia tl hl : Addr} (D : Deg N im)
    (I : Sta G B (cenvC w 115 L) nB [.ref tl, .ref hl, .unb, .unb] (ledL N im tl hl ia L) h) {Q : Flow → Shared → Prop}
    (next : ∀ h' t' ks kl v3, KeptAt N im N ks → Sta G B (cenvC w 115 L) nB [.ref tl, .ref hl, .ref kl, v3] ((kl, Lst (iv ks)) :: ledL N im tl hl ia L) h' → W prog w A (execs ((lawB w).drop 16) (cenvC w 115 L)) Q ⟨h', g, d, t' + 1, o⟩) :
    W prog w A (execs ((lawB w).drop 14) (cenvC w 115 L)) Q ⟨h, g, d, t + 1, o⟩ := by
  have hN8 := D.h8
  have hN4 := D.h4
  have hl8 : im.length ≤ 8 := by rw [D.len]; exact hN8
  refine xCons ?_
  refine xAssign ?_
  refine xCall ?_
  refine bload gg I.glob (b_list _) ?_
  refine xType ?_
  refine xArg ?_
  refine xCall ?_
  refine bload gg I.glob (b_range _) ?_
  refine xType ?_
  refine xArg ?_
  refine lC (I.has (i := 3) rfl) fun _ => ?_
  refine xArgs ?_
  refine cRangeO I fun r1 h1 t1 I1 => ?_
  refine xArgs ?_
  refine cListR hh I1 (I1.has (i := 0) rfl) (by lia) fun kl0 h2 t2 I2 => ?_
  have I2 := I2.pick [0, 2, 3, 4, 5, 6] (by decide) rfl
  refine sR I2 (i := 2) rfl fun h3 t3 I3 => ?_
  simp only [setAt] at I3
  refine xCons ?_
  refine xFor ?_
  refine xCall ?_
  refine bload gg I3.glob (b_range _) ?_
  refine xType ?_
  refine xArg ?_
  refine lC (I3.has (i := 4) rfl) fun _ => ?_
  refine xArgs ?_
  refine cRange I3 (by lia) (by lia) fun it h4 t4 I4 => ?_
  have eN : (N : Int).toNat = N := by lia
  rw [eN] at I4
  refine loop (n := N) (ix := 3) (iterR (A := A) hh it 0 N) rfl
    (fun i vs ld => ∃ (ks : List Nat) (kl : Addr) (v3 : V), vs = [.ref tl, .ref hl, .ref kl, v3] ∧ ld = (kl, Lst (iv ks)) :: ledL N im tl hl ia L ∧ KeptAt N im i ks)
    I4 ⟨_, _, _, rfl, rfl, kept_zero⟩ (fun _ _ _ _ _ _ => trivial) ?_ ?_
  · rintro i v vs ld h' t' hi rfl ⟨ks, kl, v3, rfl, rfl, hK⟩ J
    refine W.gen fun QQ hQQ => ?_
    simp only [setAt] at J
    have klt := kept_lt D.pos hK
    have kl8 : ks.length ≤ 8 := len8 hK.1 fun y hy => Nat.lt_of_lt_of_le (klt y hy) hN8
    refine xCons ?_
    refine xAssign ?_
    refine xCall ?_
    refine bload gg J.glob (b_sorted _) ?_
    refine xBuiltin ?_
    refine xArg ?_
    refine xCall ?_
    refine bload gg J.glob (b_set _) ?_
    refine xType ?_
    refine xArg ?_
    refine xComp (cl := [(Str.ofString "size", L + 1), (Str.ofString "images", L + 1 + 1)]) ?_
    refine lR J (i := 2) rfl rfl ?_
    refine pIterL J (J.has (i := 1) rfl).r fun a h5 J5 => ?_
    have nd := J5.dist
    simp only [List.map_cons, List.map_nil, List.nodup_cons, List.mem_cons, List.not_mem_nil, or_false, not_or] at nd
    have hlen : (iv ks).length = ks.length := by simp
    refine compIt (n := (iv ks).length) (iterL (A := A) hh a kl (iv ks) (by intro v hv; obtain ⟨z, _, rfl⟩ := List.mem_map.mp hv; trivial)) J5 (by rw [hlen]; lia) (fun k => V.int ((im.getD (ks.getD k 0) 0 % N : Nat) : Int)) ?_ ?_ (fun _ _ => trivial) fun D' h6 t6 J6 => ?_
    · intro h' hk
      exact hk _ _ (J5.has (i := 2) rfl).r (Ne.symm nd.1.2.1) (J5.n5 (i := 2) rfl).1 (J5.n5 (i := 2) rfl).2
    · rintro j v C h' t' B' ex hj hv hB K
      rw [hlen] at hj
      obtain ⟨p, hp, ev⟩ : ∃ p, ks[j]? = some p ∧ v = V.int (p : Nat) := by
        refine ⟨ks[j], by simp [hj], ?_⟩
        simp only [iv, List.getElem?_map, List.getElem?_eq_getElem hj, Option.map_some] at hv
        exact (Option.some.inj hv).symm
      subst ev
      have hpN : p < N := klt p (List.mem_of_getElem? hp)
      have c1 : Has B' (L + 1) (Cel (.int N)) := hB _ _ (J5.has (i := 6) rfl) (Ne.symm nd.1.2.2.2.2.2.1)
      have c2 : Has B' (L + 1 + 1) (Cel (.ref ia)) := hB _ _ (J5.has (i := 7) rfl) (Ne.symm nd.1.2.2.2.2.2.2)
      have c3 : Has B' ia (LstR (iv im)) := hB _ _ (J5.has (i := 5) rfl) (Ne.symm nd.1.2.2.2.2.1)
      have f1 := J5.n5 (i := 6) rfl
      have f2 := J5.n5 (i := 7) rfl
      have f3 := J5.n5 (i := 5) rfl
      refine xBin ?_
      refine xSub ?_
      refine lC (K.old c2 f2) fun _ => ?_
      refine lI K (i := 0) rfl rfl fun _ => ?_
      have hpi : p < im.length := by rw [D.len]; exact hpN
      refine tList (v := V.int (im.getD p 0 : Nat)) (K.old c3 f3) (by lia) (by lia) (by rw [Int.toNat_natCast, List.getElem?_map, List.getElem?_eq_getElem hpi, Option.map_some, List.getD_eq_getElem?_getD, List.getElem?_eq_getElem hpi, Option.getD_some]) fun _ => ?_
      refine lC (K.old c1 f1) fun _ => ?_
      refine iMod hh (by lia) fun u7 t7 => ?_
      rw [fmodN]
      have eg : ks.getD j 0 = p := by rw [List.getD_eq_getElem?_getD, hp, Option.getD_some]
      exact ⟨_, _, u7, [], rfl, by rw [eg], K⟩
    · have el : (List.range (iv ks).length).map (fun k => V.int ((im.getD (ks.getD k 0) 0 % N : Nat) : Int)) = iv (ks.map fun one => im.getD one 0 % N) := by
        rw [hlen]
        apply List.ext_getElem
        · simp
        · intro j h1 h2
          have hj : j < ks.length := by simpa using h1
          simp [List.getD_eq_getElem?_getD, List.getElem?_eq_getElem hj]
      rw [el, iv_int] at J6
      have sm : ∀ k ∈ (ks.map fun one => im.getD one 0 % N), k < 8 := fun k hk => by
        obtain ⟨z, _, rfl⟩ := List.mem_map.mp hk
        exact Nat.lt_of_lt_of_le (Nat.mod_lt _ D.pos) hN8
      refine xArgs ?_
      refine cSet hh J6 (J6.has (i := 0) rfl).r (fun k hk => by
        obtain ⟨z, hz, rfl⟩ := List.mem_map.mp hk
        have := sm z hz
        exact ⟨by lia, by lia⟩) (by simp; lia) fun sa h7 t7 J7 => ?_
      refine xArgs ?_
      refine cSortSet hh J7 (J7.has (i := 0) rfl) (setP_small _ sm) (by simp; lia) fun K h8 t8 ks2 J8 hs2 hm2 => ?_
      have J8 := J8.pick [0, 3, 5, 6, 7, 8, 9] (by decide) rfl
      have pos : ∀ k ∈ ks2, 0 ≤ k := fun k hk => by
        obtain ⟨z, _, rfl⟩ := List.mem_map.mp ((hm2 k).mp hk)
        lia
      have en := nats_of pos
      have e2 : ks2.map V.int = iv (ks2.map Int.toNat) := by rw [iv_int, en]
      rw [e2] at J8
      refine sR J8 (i := 2) rfl fun h9 t9 J9 => ?_
      simp only [setAt] at J9
      refine xNil ?_
      refine hQQ _ _ ⟨h9, _, _, _, rfl, J9.swap, ks2.map Int.toNat, K, _, rfl, rfl, kept_succ D hK ?_ fun x => ?_⟩
      · rw [List.pairwise_map]
        refine hs2.imp_of_mem fun ha hb q => ?_
        have := pos _ ha
        have := pos _ hb
        lia
      · constructor
        · intro hx
          obtain ⟨z, hz, rfl⟩ := List.mem_map.mp hx
          obtain ⟨y, hy, q⟩ := List.mem_map.mp ((hm2 z).mp hz)
          have : z.toNat = y := by lia
          rw [this]; exact hy
        · intro hx
          exact List.mem_map.mpr ⟨(x : Int), (hm2 _).mpr (List.mem_map.mpr ⟨x, hx, rfl⟩), by lia⟩
  · rintro vs ld h' t' ⟨ks, kl, v3, rfl, rfl, hK⟩ J
    exact next _ _ _ _ _ hK J
end
end Mine
end PartMLawC

section PartMLawD
open PySem PySem.W PyProof.Rows
set_option autoImplicit false
set_option linter.unusedVariables false
namespace Mine
abbrev nC : List Str := [Str.ofString "turns", Str.ofString "heads", Str.ofString "kept", Str.ofString "count", Str.ofString "shift", Str.ofString "ways", Str.ofString "left", Str.ofString "ring", Str.ofString "rounds", Str.ofString "words"]
section
variable {prog : Program} {w : World} {A : Around} {G B h : Heap} {g : Array GenState} {d : Drawn} {t : Nat} {o : OsState} {mg mb : Str → Option Value} {L : Addr}
theorem segC (gg : GG w G mg mb) (hh : A.handled = none) (hroom : A.depth + 200 < recursionLimit) {N : Nat} {im ks : List Nat} {ia tl hl kl : Addr} (D : Deg N im) (hK : KeptAt N im N ks)
    (I : Sta G B (cenvC w 115 L) nC [.ref tl, .ref hl, .ref kl, .unb, .unb, .unb, .unb, .unb, .unb, .unb] ((kl, Lst (iv ks)) :: ledL N im tl hl ia L) h) {Q : Flow → Shared → Prop}
    (next : ∀ h' t' wl v6, Sta G B (cenvC w 115 L) nC [.ref tl, .ref hl, .ref kl, .int ks.length, .int (shiftOf N im ks : Nat), .int (Nat.gcd ks.length (shiftOf N im ks) : Nat), v6, .int (ks.length / Nat.gcd ks.length (shiftOf N im ks) : Nat), .int (shiftOf N im ks / Nat.gcd ks.length (shiftOf N im ks) : Nat), .ref wl]
        ((wl, Lst []) :: (kl, Lst (iv ks)) :: ledL N im tl hl ia L) h' → W prog w A (execs ((lawB w).drop 23) (cenvC w 115 L)) Q ⟨h', g, d, t' + 1, o⟩) :
    W prog w A (execs ((lawB w).drop 16) (cenvC w 115 L)) Q ⟨h, g, d, t + 1, o⟩ := by
  have hN8 := D.h8
  have hN4 := D.h4
  have hl8 : im.length ≤ 8 := by rw [D.len]; exact hN8
  have klt := kept_lt D.pos hK
  have kl8 : ks.length ≤ 8 := len8 hK.1 fun y hy => Nat.lt_of_lt_of_le (klt y hy) hN8
  have k0 := kept_ne D hK
  obtain ⟨e0, he0, hm0⟩ : ∃ e0, ks[0]? = some e0 ∧ e0 ∈ ks := ⟨ks[0], by simp [k0], List.getElem_mem _⟩
  have g0 : ks.getD 0 0 = e0 := by rw [List.getD_eq_getElem?_getD, he0, Option.getD_some]
  have he0N := klt e0 hm0
  have hei : e0 < im.length := by rw [D.len]; exact he0N
  have hp2 := D.get_lt he0N
  obtain ⟨p, hp⟩ : ∃ p, im.getD e0 0 = p := ⟨_, rfl⟩
  rw [hp] at hp2
  have hpi : (iv im)[((e0 : Nat) : Int).toNat]? = some (V.int (p : Nat)) := by
    rw [Int.toNat_natCast, List.getElem?_map, List.getElem?_eq_getElem hei, Option.map_some, ← hp, List.getD_eq_getElem?_getD, List.getElem?_eq_getElem hei, Option.getD_some]
  have hcl : p % N ∈ ks := by have := kept_closed D hK hm0; rw [hp] at this; exact this
  have hidx : ks.idxOf (p % N) < ks.length := List.idxOf_lt_length_iff.mpr hcl
  have hdiv : p / N < 2 := (Nat.div_lt_iff_lt_mul D.pos).mpr hp2
  have hsh : shiftOf N im ks = p / N * ks.length + ks.idxOf (p % N) := by unfold shiftOf; rw [g0, hp]
  have hmulb : p / N * ks.length ≤ 1 * 8 := Nat.mul_le_mul (by lia) kl8
  have hshb : shiftOf N im ks < 65536 := by rw [hsh]; lia
  -- count
  refine xCons ?_
  refine xAssign ?_
  refine xCall ?_
  refine bload gg I.glob (b_len _) ?_
  refine xBuiltin ?_
  refine xArg ?_
  refine lR I (i := 2) rfl rfl ?_
  refine xArgs ?_
  refine cLen (I.has (i := 0) rfl).r (by simp; lia) fun _ _ => ?_
  have ec : ((iv ks).length : Int) = (ks.length : Int) := by simp
  rw [ec]
  refine sI I (i := 3) rfl fun h1 t1 I1 => ?_
  simp only [setAt] at I1
  -- shift
  refine xCons ?_
  refine xAssign ?_
  refine xBin ?_
  refine xBin ?_
  refine xBin ?_
  refine xSub ?_
  refine lC (I1.has (i := 5) rfl) fun _ => ?_
  refine xSub ?_
  refine lR I1 (i := 2) rfl rfl ?_
  refine cInt fun _ _ => ?_
  refine tList (v := V.int (e0 : Nat)) (I1.has (i := 0) rfl).r (by decide) (by decide) (by rw [show (0 : Int).toNat = 0 from rfl, List.getElem?_map, he0]; rfl) fun _ => ?_
  refine tList (v := V.int (p : Nat)) (I1.has (i := 3) rfl) (by lia) (by lia) hpi fun _ => ?_
  refine lC (I1.has (i := 4) rfl) fun _ => ?_
  refine iDiv (by lia) (noPl (by lia)) fun _ _ => ?_
  rw [fdivN]
  refine lI I1 (i := 3) rfl rfl fun _ => ?_
  refine iMul (mulOk (by rw [Int.natAbs_natCast]; exact Nat.lt_of_lt_of_le hdiv (by decide))) fun _ _ => ?_
  refine xMeth ?_
  refine lR I1 (i := 2) rfl rfl ?_
  refine mIndex (I1.has (i := 0) rfl) ?_
  refine xMeth1 ?_
  refine xArg ?_
  refine xBin ?_
  refine xSub ?_
  refine lC (I1.has (i := 5) rfl) fun _ => ?_
  refine xSub ?_
  refine lR I1 (i := 2) rfl rfl ?_
  refine cInt fun _ _ => ?_
  refine tList (v := V.int (e0 : Nat)) (I1.has (i := 0) rfl).r (by decide) (by decide) (by rw [show (0 : Int).toNat = 0 from rfl, List.getElem?_map, he0]; rfl) fun _ => ?_
  refine tList (v := V.int (p : Nat)) (I1.has (i := 3) rfl) (by lia) (by lia) hpi fun _ => ?_
  refine lC (I1.has (i := 4) rfl) fun _ => ?_
  refine iMod hh (by lia) fun _ _ => ?_
  rw [fmodN]
  refine xArgs ?_
  have X1 := (I1.has (i := 0) rfl).r
  rw [iv_int] at X1
  refine cIndex X1 (fun x hx => by
    obtain ⟨z, hz, rfl⟩ := List.mem_map.mp hx
    have := klt z hz
    exact ⟨by lia, by lia⟩) (by simp; lia) (List.mem_map.mpr ⟨p % N, hcl, rfl⟩) fun _ _ => ?_
  rw [idx_cast]
  refine iAdd fun _ _ => ?_
  rw [show ((p / N : Nat) : Int) * ((ks.length : Nat) : Int) + ((ks.idxOf (p % N) : Nat) : Int) = ((shiftOf N im ks : Nat) : Int) by rw [hsh]; simp]
  refine sI I1 (i := 4) rfl fun h2 t2 I2 => ?_
  simp only [setAt] at I2
  -- ways, left
  refine xCons ?_
  refine xAssignSw (Str.ofString "ways") (Str.ofString "left") ?_
  refine xTuple ?_
  refine xArg ?_
  refine lI I2 (i := 3) rfl rfl fun _ => ?_
  refine xArg ?_
  refine lI I2 (i := 4) rfl rfl fun _ => ?_
  refine xArgs ?_
  refine mkTuple I2 rfl fun r3 h3 I3 => ?_
  refine uSw2 (i1 := 5) (i2 := 6) hh I3.tail (I3.has (i := 0) rfl) trivial trivial rfl rfl fun h4 t4 I4 => ?_
  simp only [setAt, V.of] at I4
  -- Euclid
  refine xCons ?_
  refine xWhile (fun m s => ∃ (h' : Heap) (t' a b : Nat), s = ⟨h', g, d, t' + 1, o⟩ ∧ b = m ∧ a < 65536 ∧ b < 65536 ∧ Nat.gcd a b = Nat.gcd ks.length (shiftOf N im ks) ∧
      Sta G B (cenvC w 115 L) nC [.ref tl, .ref hl, .ref kl, .int ks.length, .int (shiftOf N im ks : Nat), .int a, .int b, .unb, .unb, .unb] ((kl, Lst (iv ks)) :: ledL N im tl hl ia L) h') (shiftOf N im ks) ⟨h4, _, ks.length, _, rfl, rfl, by lia, hshb, rfl, I4⟩ ?_
  rintro m s ⟨h', t', a, b, rfl, rfl, ha, hb, hg, J⟩
  refine xTest ?_
  refine lI J (i := 6) rfl rfl fun _ => ?_
  refine cInt fun _ _ => ?_
  refine iNe ?_
  refine tBool ?_
  by_cases q : ((b : Int) != 0) = true
  · refine br_t q ?_
    have b0 : 0 < b := by
      have : (b : Int) ≠ 0 := by simpa using q
      lia
    refine xCons ?_
    refine xAssignSw (Str.ofString "ways") (Str.ofString "left") ?_
    refine xTuple ?_
    refine xArg ?_
    refine lI J (i := 6) rfl rfl fun _ => ?_
    refine xArg ?_
    refine xSub ?_
    refine xCall ?_
    refine gload gg J.glob (n_int_divmod _) ?_
    refine xDef (ob := fnObj w.params 77) rfl ?_
    refine xArg ?_
    refine lI J (i := 5) rfl rfl fun _ => ?_
    refine xArg ?_
    refine lI J (i := 6) rfl rfl fun _ => ?_
    refine xArgs ⟨J.glob.keep _ _ (gg.X 77 _ (by kernel_rfl)), ?_⟩
    refine int_divmod_ok gg J.glob (by lia) hh ha b0 hb fun h5 t5 r5 K5 G5 f5 x5 => ?_
    have J5 := J.back K5 G5
    refine cInt fun _ _ => ?_
    refine tTup (k := 1) (v := V.int (a % b : Nat)) x5 (by lia) rfl fun _ => ?_
    refine xArgs ?_
    refine mkTuple J5 rfl fun r6 h6 J6 => ?_
    refine uSw2 (i1 := 5) (i2 := 6) hh J6.tail (J6.has (i := 0) rfl) trivial trivial rfl rfl fun h7 t7 J7 => ?_
    simp only [setAt, V.of] at J7
    refine xNil ?_
    have hml := Nat.mod_lt a b0
    refine ⟨a % b, hml, h7, _, b, a % b, rfl, rfl, hb, by lia, ?_, J7⟩
    rw [← hg, Nat.gcd_comm b, ← Nat.gcd_rec, Nat.gcd_comm]
  · refine br_n q ?_
    have b0 : b = 0 := by
      have : ¬ (b : Int) ≠ 0 := by simpa using q
      lia
    subst b0
    rw [Nat.gcd_zero_right] at hg
    subst hg
    have hgp : 0 < Nat.gcd ks.length (shiftOf N im ks) := Nat.gcd_pos_of_pos_left _ k0
    refine xCons ?_
    refine xAssign ?_
    refine xBin ?_
    refine lI J (i := 3) rfl rfl fun _ => ?_
    refine lI J (i := 5) rfl rfl fun _ => ?_
    refine iDiv (by lia) (noPl (by lia)) fun _ _ => ?_
    rw [fdivN]
    refine sI J (i := 7) rfl fun h5 t5 J5 => ?_
    simp only [setAt] at J5
    refine xCons ?_
    refine xAssign ?_
    refine xBin ?_
    refine lI J5 (i := 4) rfl rfl fun _ => ?_
    refine lI J5 (i := 5) rfl rfl fun _ => ?_
    refine iDiv (by lia) (noPl (by lia)) fun _ _ => ?_
    rw [fdivN]
    refine sI J5 (i := 8) rfl fun h6 t6 J6 => ?_
    simp only [setAt] at J6
    refine xCons ?_
    refine xAssign ?_
    refine xList ?_
    refine xArgs ?_
    refine mkList J6 rfl fun wl h7 J7 => ?_
    refine sR J7 (i := 9) rfl fun h8 t8 J8 => ?_
    simp only [setAt] at J8
    exact next _ _ _ _ J8
end
end Mine
end PartMLawD

section PartMLawE
open PySem PySem.W PyProof.Rows
set_option autoImplicit false
set_option linter.unusedVariables false
namespace Mine
abbrev nD : List Str := [Str.ofString "turns", Str.ofString "heads", Str.ofString "kept", Str.ofString "ways", Str.ofString "ring", Str.ofString "rounds", Str.ofString "words", Str.ofString "start", Str.ofString "spot", Str.ofString "laps", Str.ofString "word", Str.ofString "k", Str.ofString "rank", Str.ofString "base"]

theorem laps_le {N : Nat} {im : List Nat} (D : Deg N im) {x : Nat} (hx : x < N) : ∀ k, it N im k x / N ≤ k
  | 0 => by rw [show it N im 0 x = x from rfl, Nat.div_eq_of_lt hx]; exact Nat.le_refl _
  | k + 1 => by
    rw [it_div_succ D]
    have := laps_le D hx k
    have := D.turn_lt (it N im k x)
    lia
theorem letters_len (N : Nat) (im : List Nat) (x k : Nat) : (lettersOf N im x k).length = k := by simp [lettersOf]
theorem letters_succ (N : Nat) (im : List Nat) (x k : Nat) : lettersOf N im x (k + 1) = lettersOf N im x k ++ [turnOf N im (it N im k x)] := by
  unfold lettersOf; rw [List.range_succ, List.map_append]; rfl
/-- the way gone, in Python's words -/
def gone (N : Nat) (im : List Nat) (ring rounds k x : Nat) : Int := (ring : Int) * (((it N im k x / N : Nat) : Int) * (N : Int) + ((it N im k x % N : Nat) : Int) - (x : Int)) - (k : Int) * (rounds : Int) * (N : Int)

section
variable {prog : Program} {w : World} {A : Around} {G B h : Heap} {g : Array GenState} {d : Drawn} {t : Nat} {o : OsState} {mg mb : Str → Option Value} {L : Addr}
theorem segD (gg : GG w G mg mb) (hh : A.handled = none) (hroom : A.depth + 200 < recursionLimit) {N ways ring rounds : Nat} {im ks : List Nat} {ia tl hl kl wl : Addr} (D : Deg N im) (hK : KeptAt N im N ks)
    (b1 : 0 < ways) (b2 : 0 < ring) (b3 : ring ≤ 8) (b4 : rounds ≤ 16) (b5 : ways ≤ 8)
    (H1 : ∀ k x, x < N → (if gone N im ring rounds k x < 0 then -gone N im ring rounds k x else gone N im ring rounds k x) < (ring : Int) * (N : Int))
    (H2 : ∀ m x, x < N → it N im (N + m) x / N = it N im N x / N + (ks.idxOf (it N im N x % N) / ways + m * rounds) / ring)
    (I : Sta G B (cenvC w 115 L) nD [.ref tl, .ref hl, .ref kl, .int ways, .int ring, .int rounds, .ref wl, .unb, .unb, .unb, .unb, .unb, .unb, .unb] ((wl, Lst []) :: (kl, Lst (iv ks)) :: ledL N im tl hl ia L) h) {Q : Flow → Shared → Prop}
    (next : ∀ h' t' v7 v8 v9 v10 v11 v12 v13, Sta G B (cenvC w 115 L) nD [.ref tl, .ref hl, .ref kl, .int ways, .int ring, .int rounds, .ref wl, v7, v8, v9, v10, v11, v12, v13]
        ((wl, Lst ((List.range N).map fun x => V.str (ab (lettersOf N im x (2 * N))))) :: (kl, Lst (iv ks)) :: ledL N im tl hl ia L) h' → W prog w A (execs ((lawB w).drop 24) (cenvC w 115 L)) Q ⟨h', g, d, t' + 1, o⟩) :
    W prog w A (execs ((lawB w).drop 23) (cenvC w 115 L)) Q ⟨h, g, d, t + 1, o⟩ := by
  have hN8 := D.h8
  have hN4 := D.h4
  have hl8 : im.length ≤ 8 := by rw [D.len]; exact hN8
  have klt := kept_lt D.pos hK
  have kl8 : ks.length ≤ 8 := len8 hK.1 fun y hy => Nat.lt_of_lt_of_le (klt y hy) hN8
  refine xCons ?_
  refine xFor ?_
  refine xCall ?_
  refine bload gg I.glob (b_range _) ?_
  refine xType ?_
  refine xArg ?_
  refine lC (I.has (i := 5) rfl) fun _ => ?_
  refine xArgs ?_
  refine cRange I (by lia) (by lia) fun ot h1 t1 I1 => ?_
  rw [Int.toNat_natCast] at I1
  refine loop (n := N) (ix := 7) (iterR (A := A) hh ot 0 N) rfl
    (fun i vs ld => Ex7 fun v7 v8 v9 v10 v11 v12 v13 => vs = [.ref tl, .ref hl, .ref kl, .int ways, .int ring, .int rounds, .ref wl, v7, v8, v9, v10, v11, v12, v13] ∧
      ld = (wl, Lst ((List.range i).map fun x => V.str (ab (lettersOf N im x (2 * N))))) :: (kl, Lst (iv ks)) :: ledL N im tl hl ia L)
    I1 ⟨_, _, _, _, _, _, _, rfl, rfl⟩ (fun _ _ _ _ _ _ => trivial) ?_ ?_
  · rintro x v vs ld h' t' hxN rfl ⟨v7, v8, v9, v10, v11, v12, v13, rfl, rfl⟩ J
    refine W.gen fun QQ hQQ => ?_
    simp only [setAt] at J
    rw [show (0 : Int) + (x : Int) = (x : Int) by lia] at J
    refine xCons ?_
    refine xAssign ?_
    refine lI J (i := 7) rfl rfl fun _ => ?_
    refine sI J (i := 8) rfl fun h2 t2 J2 => ?_
    simp only [setAt] at J2
    refine xCons ?_
    refine xAssign ?_
    refine cInt fun _ _ => ?_
    refine sI J2 (i := 9) rfl fun h3 t3 J3 => ?_
    simp only [setAt] at J3
    refine xCons ?_
    refine xAssign ?_
    refine cStr fun _ _ => ?_
    refine sS J3 (i := 10) rfl fun h4 t4 J4 => ?_
    simp only [setAt] at J4
    refine xCons ?_
    refine xFor ?_
    refine xCall ?_
    refine bload gg J4.glob (b_range _) ?_
    refine xType ?_
    refine xArg ?_
    refine cInt fun _ _ => ?_
    refine xArg ?_
    refine xBin ?_
    refine xBin ?_
    refine cInt fun _ _ => ?_
    refine lC (J4.has (i := 6) rfl) fun _ => ?_
    refine iMul (mulOk (by decide)) fun _ _ => ?_
    refine cInt fun _ _ => ?_
    refine iAdd fun _ _ => ?_
    refine xArgs ?_
    refine cRange2 J4 (by decide) (by decide) (by lia) (by lia) fun ii h5 t5 J5 => ?_
    have e2N : ((2 : Int) * (N : Int) + 1 - 1).toNat = 2 * N := by lia
    rw [e2N] at J5
    refine loop (n := 2 * N) (ix := 11) (iterR (A := A) hh ii 1 (2 * N)) rfl
      (fun i vs ld => Ex3 fun v11 v12 v13 => vs = [.ref tl, .ref hl, .ref kl, .int ways, .int ring, .int rounds, .ref wl, .int x, .int (it N im i x % N : Nat), .int (it N im i x / N : Nat), .str (ab (lettersOf N im x i)), v11, v12, v13] ∧
        (N ≤ i → v12 = .int (ks.idxOf (it N im N x % N) : Nat) ∧ v13 = .int (it N im N x / N : Nat)) ∧
        ld = (ot, ItR 0 N (x + 1)) :: (wl, Lst ((List.range x).map fun x => V.str (ab (lettersOf N im x (2 * N))))) :: (kl, Lst (iv ks)) :: ledL N im tl hl ia L)
      J5 ⟨v11, v12, v13, ?_, fun q => by lia, rfl⟩ (fun _ _ _ _ _ _ => trivial) ?_ ?_
    · rw [show it N im 0 x = x from rfl, Nat.mod_eq_of_lt hxN, Nat.div_eq_of_lt hxN]
      rfl
    · rintro i v vs ld h' t' hi rfl ⟨v11, v12, v13, rfl, hrb, rfl⟩ K
      refine W.gen fun QQ hQQ => ?_
      simp only [setAt] at K
      rw [show (1 : Int) + (i : Int) = ((i + 1 : Nat) : Int) by lia] at K
      have hturn := D.turn_lt (it N im i x)
      have hlaps := laps_le D hxN i
      have hlaps1 := laps_le D hxN (i + 1)
      have hspot : it N im i x % N < N := Nat.mod_lt _ D.pos
      have hspot1 : it N im (i + 1) x % N < N := Nat.mod_lt _ D.pos
      have hsi : it N im i x % N < im.length := by rw [D.len]; exact hspot
      have hT : (iv (im.map (· / N)))[((it N im i x % N : Nat) : Int).toNat]? = some (V.int (turnOf N im (it N im i x) : Nat)) := by
        rw [Int.toNat_natCast]
        simp only [iv, List.map_map, List.getElem?_map, List.getElem?_eq_getElem hsi, Option.map_some]
        unfold turnOf
        rw [List.getD_eq_getElem?_getD, List.getElem?_eq_getElem hsi]; rfl
      have hH : (iv (im.map (· % N)))[((it N im i x % N : Nat) : Int).toNat]? = some (V.int (it N im (i + 1) x % N : Nat)) := by
        rw [Int.toNat_natCast]
        simp only [iv, List.map_map, List.getElem?_map, List.getElem?_eq_getElem hsi, Option.map_some]
        rw [it_mod_succ D, List.getD_eq_getElem?_getD, List.getElem?_eq_getElem hsi]; rfl
      -- word
      refine xCons ?_
      refine xAug K (i := 10) rfl rfl nofun fun _ => ?_
      refine xSub ?_
      refine cStr fun _ _ => ?_
      refine xSub ?_
      refine lR K (i := 0) rfl rfl ?_
      refine lI K (i := 8) rfl rfl fun _ => ?_
      refine tList (v := V.int (turnOf N im (it N im i x) : Nat)) (K.has (i := 4) rfl).r (by lia) (by lia) hT fun _ => ?_
      refine tAb hturn fun _ _ => ?_
      refine sAdd (by rw [ab_len, ab_len, letters_len]; simp; lia) fun _ _ => ?_
      rw [ab_app, ← letters_succ]
      refine sS K (i := 10) rfl fun h6 t6 K6 => ?_
      simp only [setAt] at K6
      -- laps
      refine xCons ?_
      refine xAug K6 (i := 9) rfl rfl nofun fun _ => ?_
      refine xSub ?_
      refine lR K6 (i := 0) rfl rfl ?_
      refine lI K6 (i := 8) rfl rfl fun _ => ?_
      refine tList (v := V.int (turnOf N im (it N im i x) : Nat)) (K6.has (i := 4) rfl).r (by lia) (by lia) hT fun _ => ?_
      refine iIAdd fun _ _ => ?_
      have hl1 : ((it N im i x / N : Nat) : Int) + ((turnOf N im (it N im i x) : Nat) : Int) = ((it N im (i + 1) x / N : Nat) : Int) := by rw [it_div_succ D]; lia
      rw [hl1]
      refine sI K6 (i := 9) rfl fun h7 t7 K7 => ?_
      simp only [setAt] at K7
      -- spot
      refine xCons ?_
      refine xAssign ?_
      refine xSub ?_
      refine lR K7 (i := 1) rfl rfl ?_
      refine lI K7 (i := 8) rfl rfl fun _ => ?_
      refine tList (v := V.int (it N im (i + 1) x % N : Nat)) (K7.has (i := 5) rfl).r (by lia) (by lia) hH fun _ => ?_
      refine sI K7 (i := 8) rfl fun h8 t8 K8 => ?_
      simp only [setAt] at K8
      -- the way gone
      refine xCons ?_
      refine xIf ?_
      refine xTest ?_
      refine xCall ?_
      refine bload gg K8.glob (b_abs _) ?_
      refine xBuiltin ?_
      refine xArg ?_
      refine xBin ?_
      refine xBin ?_
      refine lI K8 (i := 4) rfl rfl fun _ => ?_
      refine xBin ?_
      refine xBin ?_
      refine xBin ?_
      refine lI K8 (i := 9) rfl rfl fun _ => ?_
      refine lC (K8.has (i := 7) rfl) fun _ => ?_
      refine iMul (mulOk (by rw [Int.natAbs_natCast]; exact Nat.lt_of_le_of_lt hlaps1 (Nat.lt_of_lt_of_le (show i + 1 < 100 by lia) (by decide)))) fun _ _ => ?_
      refine lI K8 (i := 8) rfl rfl fun _ => ?_
      refine iAdd fun _ _ => ?_
      refine lI K8 (i := 7) rfl rfl fun _ => ?_
      refine iSub fun _ _ => ?_
      refine iMul (mulOk (by lia)) fun _ _ => ?_
      refine xBin ?_
      refine xBin ?_
      refine lI K8 (i := 11) rfl rfl fun _ => ?_
      refine lI K8 (i := 5) rfl rfl fun _ => ?_
      refine iMul (mulOk (by lia)) fun _ _ => ?_
      refine lC (K8.has (i := 7) rfl) fun _ => ?_
      refine iMul (mulOk ?_) fun _ _ => ?_
      · rw [show ((i + 1 : Nat) : Int) * (rounds : Int) = (((i + 1) * rounds : Nat) : Int) by simp, Int.natAbs_natCast]
        exact Nat.lt_of_le_of_lt (Nat.mul_le_mul (show i + 1 ≤ 16 by lia) b4) (by decide)
      refine iSub fun _ _ => ?_
      refine xArgs ?_
      refine iAbs fun _ _ => ?_
      refine xBin ?_
      refine lI K8 (i := 4) rfl rfl fun _ => ?_
      refine lC (K8.has (i := 7) rfl) fun _ => ?_
      refine iMul (mulOk (by lia)) fun _ _ => ?_
      refine iGe ?_
      refine tBool ?_
      have h1 := H1 (i + 1) x hxN
      unfold gone at h1
      refine br_f (decide_eq_false (by lia)) ?_
      refine xNil ?_
      -- k == size
      refine xCons (W.mono (Q := fun f s' => f = .next ∧ ∃ (h9 : Heap) (t9 : Nat) (w12 w13 : V), s' = ⟨h9, g, d, t9 + 1, o⟩ ∧ (N ≤ i + 1 → w12 = V.int (ks.idxOf (it N im N x % N) : Nat) ∧ w13 = V.int (it N im N x / N : Nat)) ∧
          Sta G B (cenvC w 115 L) nD [.ref tl, .ref hl, .ref kl, .int ways, .int ring, .int rounds, .ref wl, .int x, .int (it N im (i + 1) x % N : Nat), .int (it N im (i + 1) x / N : Nat), .str (ab (lettersOf N im x (i + 1))), .int (i + 1 : Nat), w12, w13]
            ((ii, ItR 1 (2 * N) (i + 1)) :: (ot, ItR 0 N (x + 1)) :: (wl, Lst ((List.range x).map fun x => V.str (ab (lettersOf N im x (2 * N))))) :: (kl, Lst (iv ks)) :: ledL N im tl hl ia L) h9) ?_ ?_)
      · refine xIf ?_
        refine xTest ?_
        refine lI K8 (i := 11) rfl rfl fun _ => ?_
        refine lC (K8.has (i := 7) rfl) fun _ => ?_
        refine iEq ?_
        refine tBool ?_
        by_cases q : (((i + 1 : Nat) : Int) == (N : Int)) = true
        · refine br_t q ?_
          have eN : i + 1 = N := by
            have : ((i + 1 : Nat) : Int) = (N : Int) := by simpa using q
            lia
          have hmem : it N im N x % N ∈ ks := (hK.2 _).mpr ⟨x, hxN, rfl⟩
          refine xCons ?_
          refine xAssignSw (Str.ofString "rank") (Str.ofString "base") ?_
          refine xTuple ?_
          refine xArg ?_
          refine xMeth ?_
          refine lR K8 (i := 2) rfl rfl ?_
          refine mIndex (K8.has (i := 3) rfl) ?_
          refine xMeth1 ?_
          refine xArg ?_
          refine lI K8 (i := 8) rfl rfl fun _ => ?_
          refine xArgs ?_
          have X1 := (K8.has (i := 3) rfl).r
          rw [iv_int] at X1
          refine cIndex X1 (fun x hx => by
            obtain ⟨z, hz, rfl⟩ := List.mem_map.mp hx
            have := klt z hz
            exact ⟨by lia, by lia⟩) (by simp; lia) (List.mem_map.mpr ⟨it N im (i + 1) x % N, by rw [eN]; exact hmem, rfl⟩) fun _ _ => ?_
          rw [idx_cast]
          refine xArg ?_
          refine lI K8 (i := 9) rfl rfl fun _ => ?_
          refine xArgs ?_
          refine mkTuple K8 rfl fun r9 h9 K9 => ?_
          refine uSw2 (i1 := 12) (i2 := 13) hh K9.tail (K9.has (i := 0) rfl) trivial trivial rfl rfl fun h10 t10 K10 => ?_
          simp only [setAt, V.of] at K10
          refine xNil ?_
          refine ⟨rfl, h10, _, _, _, rfl, fun _ => ?_, K10⟩
          rw [eN]
          exact ⟨rfl, rfl⟩
        · refine br_n q ?_
          have eN : i + 1 ≠ N := by
            intro e
            exact q (by rw [e]; simp)
          refine xNil ?_
          refine ⟨rfl, h8, _, _, _, rfl, fun hle => hrb (by lia), K8⟩
      · rintro f s' ⟨rfl, h9, t9, w12, w13, rfl, hw, K9⟩
        refine xCons ?_
        refine xIf ?_
        refine xAnd ?_
        refine xTest ?_
        refine lI K9 (i := 11) rfl rfl fun _ => ?_
        refine lC (K9.has (i := 7) rfl) fun _ => ?_
        refine iGe ?_
        refine tBool ?_
        have fin : ∀ h10 t10, Sta G B (cenvC w 115 L) nD [.ref tl, .ref hl, .ref kl, .int ways, .int ring, .int rounds, .ref wl, .int x, .int (it N im (i + 1) x % N : Nat), .int (it N im (i + 1) x / N : Nat), .str (ab (lettersOf N im x (i + 1))), .int (i + 1 : Nat), w12, w13]
            ((ii, ItR 1 (2 * N) (i + 1)) :: (ot, ItR 0 N (x + 1)) :: (wl, Lst ((List.range x).map fun x => V.str (ab (lettersOf N im x (2 * N))))) :: (kl, Lst (iv ks)) :: ledL N im tl hl ia L) h10 →
            QQ .next (⟨h10, g, d, t10 + 1, o⟩ : Shared) :=
          fun h10 t10 K => hQQ _ _ ⟨h10, t10, _, _, rfl, K, _, _, _, rfl, hw, rfl⟩
        by_cases q : decide ((N : Int) ≤ ((i + 1 : Nat) : Int)) = true
        · refine br_t q ?_
          have hge : N ≤ i + 1 := by have := of_decide_eq_true q; lia
          obtain ⟨rfl, rfl⟩ := hw hge
          obtain ⟨m, hm⟩ : ∃ m, i + 1 = N + m := ⟨i + 1 - N, by lia⟩
          have h2 := H2 m x hxN
          have hidx : ks.idxOf (it N im N x % N) < ks.length := List.idxOf_lt_length_iff.mpr ((hK.2 _).mpr ⟨x, hxN, rfl⟩)
          refine xAnd ?_
          refine xTest ?_
          refine xBin ?_
          refine lI K9 (i := 9) rfl rfl fun _ => ?_
          refine lI K9 (i := 13) rfl rfl fun _ => ?_
          refine iSub fun _ _ => ?_
          refine xBin ?_
          refine xBin ?_
          refine xBin ?_
          refine lI K9 (i := 12) rfl rfl fun _ => ?_
          refine lI K9 (i := 3) rfl rfl fun _ => ?_
          refine iDiv (by lia) (noPl (by lia)) fun _ _ => ?_
          rw [fdivN]
          refine xBin ?_
          refine xBin ?_
          refine lI K9 (i := 11) rfl rfl fun _ => ?_
          refine lC (K9.has (i := 7) rfl) fun _ => ?_
          refine iSub fun _ _ => ?_
          refine lI K9 (i := 5) rfl rfl fun _ => ?_
          refine iMul (mulOk (by lia)) fun _ _ => ?_
          refine iAdd fun _ _ => ?_
          have ek : ((i + 1 : Nat) : Int) - (N : Int) = (m : Int) := by lia
          rw [ek, show ((ks.idxOf (it N im N x % N) / ways : Nat) : Int) + (m : Int) * (rounds : Int) = ((ks.idxOf (it N im N x % N) / ways + m * rounds : Nat) : Int) by simp]
          refine lI K9 (i := 4) rfl rfl fun _ => ?_
          refine iDiv (by lia) (noPl (by lia)) fun _ _ => ?_
          rw [fdivN]
          refine iNe ?_
          refine tBool ?_
          refine br_f (by rw [hm, h2]; simp; lia) ?_
          refine br_f rfl ?_
          refine xNil ?_
          refine xNil ?_
          exact fin _ _ K9
        · refine br_n q ?_
          refine br_f rfl ?_
          refine xNil ?_
          refine xNil ?_
          exact fin _ _ K9
    · rintro vs ld h' t' ⟨v11, v12, v13, rfl, _, rfl⟩ K
      refine xCons ?_
      refine xExpr ?_
      refine xMeth ?_
      refine lR K (i := 6) rfl rfl ?_
      refine mAppend (K.has (i := 1) rfl) ?_
      refine xMeth1 ?_
      refine xArg ?_
      refine lS K (i := 10) rfl rfl fun _ => ?_
      refine xArgs ?_
      refine cAppend K (i := 1) rfl (fit64 (by simp; lia)) fun h6 K6 => ?_
      simp only [setAt] at K6
      refine xNil ?_
      refine hQQ _ _ ⟨h6, _, _, _, rfl, K6, _, _, _, _, _, _, _, rfl, ?_⟩
      rw [List.range_succ, List.map_append]
      rfl
  · rintro vs ld h' t' ⟨_, _, _, _, _, _, _, rfl, rfl⟩ J
    exact next _ _ _ _ _ _ _ _ _ J
end
end Mine
end PartMLawE

section PartMLawF
open PySem PySem.W PyProof.Rows
set_option autoImplicit false
set_option linter.unusedVariables false
namespace Mine
abbrev nE : List Str := [Str.ofString "turns", Str.ofString "kept", Str.ofString "ways", Str.ofString "ring", Str.ofString "rounds", Str.ofString "words", Str.ofString "low", Str.ofString "high", Str.ofString "due"]
abbrev wordsV (N : Nat) (im : List Nat) : List V := (List.range N).map fun x => V.str (ab (lettersOf N im x (2 * N)))
theorem wordsV_at {N : Nat} {im : List Nat} {x : Nat} (h : x < N) : (wordsV N im)[((x : Nat) : Int).toNat]? = some (V.str (ab (lettersOf N im x (2 * N)))) := by
  rw [Int.toNat_natCast, List.getElem?_map, List.getElem?_range h]; rfl

section
variable {prog : Program} {w : World} {A : Around} {G B h : Heap} {g : Array GenState} {d : Drawn} {t : Nat} {o : OsState} {mg mb : Str → Option Value} {L : Addr}
theorem segE (gg : GG w G mg mb) (hh : A.handled = none) (hroom : A.depth + 200 < recursionLimit) {N : Nat} {im : List Nat} {ia tl hl wl : Addr} {d0 d1 d2 d3 d4 : V} {kl : Addr} {ks : List Nat} (D : Deg N im)
    (H3 : ∀ x y, x < y → y < N → lettersOf N im x (2 * N) = lettersOf N im y (2 * N) ∨ ((ab (lettersOf N im x (2 * N))).cps.toList < (ab (lettersOf N im y (2 * N))).cps.toList ∧ ¬ (ab (lettersOf N im y (2 * N))).cps.toList < (ab (lettersOf N im x (2 * N))).cps.toList))
    (I : Sta G B (cenvC w 115 L) nE [d0, d1, d2, d3, d4, .ref wl, .unb, .unb, .unb] ((wl, Lst (wordsV N im)) :: (kl, Lst (iv ks)) :: ledL N im tl hl ia L) h) {Q : Flow → Shared → Prop}
    (next : ∀ h' t' v6 v7 v8, Sta G B (cenvC w 115 L) nE [d0, d1, d2, d3, d4, .ref wl, v6, v7, v8] ((wl, Lst (wordsV N im)) :: (kl, Lst (iv ks)) :: ledL N im tl hl ia L) h' → W prog w A (execs ((lawB w).drop 25) (cenvC w 115 L)) Q ⟨h', g, d, t' + 1, o⟩) :
    W prog w A (execs ((lawB w).drop 24) (cenvC w 115 L)) Q ⟨h, g, d, t + 1, o⟩ := by
  have hN8 := D.h8
  have hN4 := D.h4
  refine xCons ?_
  refine xFor ?_
  refine xCall ?_
  refine bload gg I.glob (b_range _) ?_
  refine xType ?_
  refine xArg ?_
  refine lC (I.has (i := 5) rfl) fun _ => ?_
  refine xArgs ?_
  refine cRange I (by lia) (by lia) fun ot h1 t1 I1 => ?_
  rw [Int.toNat_natCast] at I1
  refine loop (n := N) (ix := 6) (iterR (A := A) hh ot 0 N) rfl
    (fun i vs ld => Ex3 fun v6 v7 v8 => vs = [d0, d1, d2, d3, d4, .ref wl, v6, v7, v8] ∧ ld = (wl, Lst (wordsV N im)) :: (kl, Lst (iv ks)) :: ledL N im tl hl ia L)
    I1 ⟨_, _, _, rfl, rfl⟩ (fun _ _ _ _ _ _ => trivial) ?_ ?_
  · rintro x v vs ld h' t' hxN rfl ⟨v6, v7, v8, rfl, rfl⟩ J
    refine W.gen fun QQ hQQ => ?_
    simp only [setAt] at J
    rw [show (0 : Int) + (x : Int) = (x : Int) by lia] at J
    refine xCons ?_
    refine xFor ?_
    refine xCall ?_
    refine bload gg J.glob (b_range _) ?_
    refine xType ?_
    refine xArg ?_
    refine xBin ?_
    refine lI J (i := 6) rfl rfl fun _ => ?_
    refine cInt fun _ _ => ?_
    refine iAdd fun _ _ => ?_
    refine xArg ?_
    refine lC (J.has (i := 6) rfl) fun _ => ?_
    refine xArgs ?_
    refine cRange2 J (by lia) (by lia) (by lia) (by lia) fun ii h5 t5 J5 => ?_
    have e2N : ((N : Int) - ((x : Int) + 1)).toNat = N - (x + 1) := by lia
    rw [e2N] at J5
    refine loop (n := N - (x + 1)) (ix := 7) (iterR (A := A) hh ii ((x : Int) + 1) (N - (x + 1))) rfl
      (fun i vs ld => Ex2 fun v7 v8 => vs = [d0, d1, d2, d3, d4, .ref wl, .int x, v7, v8] ∧ ld = (ot, ItR 0 N (x + 1)) :: (wl, Lst (wordsV N im)) :: (kl, Lst (iv ks)) :: ledL N im tl hl ia L)
      J5 ⟨_, _, rfl, rfl⟩ (fun _ _ _ _ _ _ => trivial) ?_ ?_
    · rintro i v vs ld h' t' hi rfl ⟨v7, v8, rfl, rfl⟩ K
      refine W.gen fun QQ hQQ => ?_
      simp only [setAt] at K
      obtain ⟨y, hy⟩ : ∃ y, y = x + 1 + i := ⟨_, rfl⟩
      rw [show (x : Int) + 1 + (i : Int) = (y : Int) by lia] at K
      have hyN : y < N := by lia
      have h3 := H3 x y (by lia) hyN
      obtain ⟨p, hp⟩ : ∃ p, ab (lettersOf N im x (2 * N)) = p := ⟨_, rfl⟩
      obtain ⟨q, hq⟩ : ∃ q, ab (lettersOf N im y (2 * N)) = q := ⟨_, rfl⟩
      have ex := wordsV_at (im := im) hxN
      have ey := wordsV_at (im := im) hyN
      rw [hp] at ex
      rw [hq] at ey
      rw [hp, hq] at h3
      have body : ∀ (c : Bool), (c = true → p = q) → (c = false → p.cps.toList < q.cps.toList ∧ ¬ q.cps.toList < p.cps.toList) → ∀ h6 t6,
          Sta G B (cenvC w 115 L) nE [d0, d1, d2, d3, d4, .ref wl, .int x, .int y, .int (if c = true then 0 else -1)] ((ii, ItR ((x : Int) + 1) (N - (x + 1)) (i + 1)) :: (ot, ItR 0 N (x + 1)) :: (wl, Lst (wordsV N im)) :: (kl, Lst (iv ks)) :: ledL N im tl hl ia L) h6 →
          W prog w A (isTrue (match (match (match (lawB w).drop 24 with | .For _ _ b _ _ :: _ => b | _ => []) with | .For _ _ b _ _ :: _ => b | _ => []).drop 1 with | .If c _ _ _ :: _ => c | _ => default) (cenvC w 115 L) (eval (match (match (match (lawB w).drop 24 with | .For _ _ b _ _ :: _ => b | _ => []) with | .For _ _ b _ _ :: _ => b | _ => []).drop 1 with | .If c _ _ _ :: _ => c | _ => default) (cenvC w 115 L)))
            (fun r s' => r = false ∧ ∃ (h7 : Heap) (t7 : Nat), s' = ⟨h7, g, d, t7 + 1, o⟩ ∧ Sta G B (cenvC w 115 L) nE [d0, d1, d2, d3, d4, .ref wl, .int x, .int y, .int (if c = true then 0 else -1)] ((ii, ItR ((x : Int) + 1) (N - (x + 1)) (i + 1)) :: (ot, ItR 0 N (x + 1)) :: (wl, Lst (wordsV N im)) :: (kl, Lst (iv ks)) :: ledL N im tl hl ia L) h7) ⟨h6, g, d, t6 + 1, o⟩ := by
        intro c hc1 hc2 h6 t6 K6
        have v1 : b2i (decide (q.cps.toList < p.cps.toList)) - b2i (decide (p.cps.toList < q.cps.toList)) = (if c = true then 0 else -1) := by
          cases c with
          | true =>
            have := hc1 rfl
            subst this
            simp
          | false =>
            obtain ⟨a1, a2⟩ := hc2 rfl
            rw [decide_eq_true a1, decide_eq_false a2]; rfl
        have v2 : b2i (decide (p.cps.toList < q.cps.toList)) - b2i (decide (q.cps.toList < p.cps.toList)) = -(if c = true then 0 else -1) := by
          rw [← v1]; lia
        refine xOr ?_
        refine xTest ?_
        refine xCall ?_
        refine gload gg K6.glob (n_strcoll _) ?_
        refine xDef (ob := fnObj w.params 84) rfl ?_
        refine xArg ?_
        refine xSub ?_
        refine lR K6 (i := 5) rfl rfl ?_
        refine lI K6 (i := 6) rfl rfl fun _ => ?_
        refine tList (v := V.str p) (K6.has (i := 2) rfl).r (by lia) (by lia) ex fun _ => ?_
        refine xArg ?_
        refine xSub ?_
        refine lR K6 (i := 5) rfl rfl ?_
        refine lI K6 (i := 7) rfl rfl fun _ => ?_
        refine tList (v := V.str q) (K6.has (i := 2) rfl).r (by lia) (by lia) ey fun _ => ?_
        refine xArgs ⟨K6.glob.keep _ _ (gg.X 84 _ (by kernel_rfl)), ?_⟩
        refine strcoll_ok gg K6.glob (by lia) fun h7 t7 u7 Kp7 G7 => ?_
        have K7 := K6.back Kp7 G7
        rw [v1]
        refine lI K7 (i := 8) rfl rfl fun _ => ?_
        refine iNe ?_
        refine tBool ?_
        refine br_f (by simp) ?_
        refine xOr ?_
        refine xTest ?_
        refine xCall ?_
        refine gload gg K7.glob (n_strcoll _) ?_
        refine xDef (ob := fnObj w.params 84) rfl ?_
        refine xArg ?_
        refine xSub ?_
        refine lR K7 (i := 5) rfl rfl ?_
        refine lI K7 (i := 7) rfl rfl fun _ => ?_
        refine tList (v := V.str q) (K7.has (i := 2) rfl).r (by lia) (by lia) ey fun _ => ?_
        refine xArg ?_
        refine xSub ?_
        refine lR K7 (i := 5) rfl rfl ?_
        refine lI K7 (i := 6) rfl rfl fun _ => ?_
        refine tList (v := V.str p) (K7.has (i := 2) rfl).r (by lia) (by lia) ex fun _ => ?_
        refine xArgs ⟨K7.glob.keep _ _ (gg.X 84 _ (by kernel_rfl)), ?_⟩
        refine strcoll_ok gg K7.glob (by lia) fun h8 t8 u8 Kp8 G8 => ?_
        have K8 := K7.back Kp8 G8
        rw [v2]
        refine xUnary ?_
        refine lI K8 (i := 8) rfl rfl fun _ => ?_
        refine iNeg fun _ _ => ?_
        refine iNe ?_
        refine tBool ?_
        refine br_f (by simp) ?_
        refine xOr0 ?_
        exact ⟨rfl, _, _, rfl, K8⟩
      refine xCons ?_
      refine xAssign ?_
      refine xIfExp ?_
      refine xTest ?_
      refine xSub ?_
      refine lR K (i := 5) rfl rfl ?_
      refine lI K (i := 6) rfl rfl fun _ => ?_
      refine tList (v := V.str p) (K.has (i := 2) rfl).r (by lia) (by lia) ex fun _ => ?_
      refine xSub ?_
      refine lR K (i := 5) rfl rfl ?_
      refine lI K (i := 7) rfl rfl fun _ => ?_
      refine tList (v := V.str q) (K.has (i := 2) rfl).r (by lia) (by lia) ey fun _ => ?_
      refine sEq ?_
      refine tBool ?_
      by_cases hpq : (p == q) = true
      · refine br_t hpq ?_
        refine cInt fun _ _ => ?_
        refine sI K (i := 8) rfl fun h6 t6 K6 => ?_
        simp only [setAt] at K6
        refine xCons ?_
        refine xIf ?_
        refine W.mono (body true (fun _ => eq_of_beq hpq) (fun q => by cases q) h6 t6 K6) ?_
        rintro r s' ⟨rfl, h7, t7, rfl, K7⟩
        refine br_f rfl ?_
        refine xNil ?_
        refine xNil ?_
        exact hQQ _ _ ⟨h7, t7, _, _, rfl, K7, _, _, rfl, rfl⟩
      · refine br_n hpq ?_
        refine xUnary ?_
        refine cInt fun _ _ => ?_
        refine iNeg fun _ _ => ?_
        refine sI K (i := 8) rfl fun h6 t6 K6 => ?_
        simp only [setAt] at K6
        refine xCons ?_
        refine xIf ?_
        refine W.mono (body false (fun q => by cases q) (fun _ => ?_) h6 t6 K6) ?_
        · rcases h3 with e | e
          · exfalso
            apply hpq
            rw [← hp, ← hq, e]
            simp
          · exact e
        rintro r s' ⟨rfl, h7, t7, rfl, K7⟩
        refine br_f rfl ?_
        refine xNil ?_
        refine xNil ?_
        exact hQQ _ _ ⟨h7, t7, _, _, rfl, K7, _, _, rfl, rfl⟩
    · rintro vs ld h' t' ⟨v7, v8, rfl, rfl⟩ K
      refine xNil ?_
      exact hQQ _ _ ⟨h', t', _, _, rfl, K, _, _, _, rfl, rfl⟩
  · rintro vs ld h' t' ⟨_, _, _, rfl, rfl⟩ J
    exact next _ _ _ _ _ J
end
end Mine
end PartMLawF

section PartMLawG
open PySem PySem.W PyProof.Rows
set_option autoImplicit false
set_option linter.unusedVariables false
namespace Mine
abbrev nF : List Str := [Str.ofString "turns", Str.ofString "kept", Str.ofString "ways", Str.ofString "ring", Str.ofString "rounds", Str.ofString "words", Str.ofString "numbers", Str.ofString "rank", Str.ofString "signs", Str.ofString "due"]
/-- the number of the hue e: its first letters as bits -/
def numOf (N : Nat) (im : List Nat) (ring e : Nat) : Nat := d2i 1 (lettersOf N im e ring).reverse
def numsOf (N : Nat) (im ks : List Nat) (ways ring : Nat) : List Nat := (List.range ring).map fun r => numOf N im ring (ks.getD (r * ways) 0)
theorem letters_take {N : Nat} {im : List Nat} {x k m : Nat} (h : k ≤ m) : (lettersOf N im x m).take k = lettersOf N im x k := by
  unfold lettersOf; rw [← List.map_take, List.take_range, Nat.min_eq_left h]
theorem letters_lt {N : Nat} {im : List Nat} (D : Deg N im) {x k : Nat} : ∀ t ∈ lettersOf N im x k, t < 2 := fun t ht => by
  obtain ⟨i, _, rfl⟩ := List.mem_map.mp ht
  exact D.turn_lt _
theorem ab_is_b : ∀ x : Nat, x < 2 → (ab [x] == Str.ofString "b") = decide (x = 1)
  | 0, _ => by decide +kernel
  | 1, _ => by decide +kernel
  | x + 2, h => by lia

section
variable {prog : Program} {w : World} {A : Around} {G B h : Heap} {g : Array GenState} {d : Drawn} {t : Nat} {o : OsState} {mg mb : Str → Option Value} {L : Addr}
theorem segF (gg : GG w G mg mb) (hh : A.handled = none) (hroom : A.depth + 200 < recursionLimit) {N ways ring : Nat} {im ks : List Nat} {ia tl hl kl wl : Addr} {d0 d4 : V} (D : Deg N im) (hK : KeptAt N im N ks)
    (b1 : 0 < ways) (b2 : 0 < ring) (b3 : ring ≤ 8) (b5 : ways ≤ 8) (hc : ks.length = ring * ways)
    (I : Sta G B (cenvC w 115 L) nF [d0, .ref kl, .int ways, .int ring, d4, .ref wl, .unb, .unb, .unb, .unb] ((wl, Lst (wordsV N im)) :: (kl, Lst (iv ks)) :: ledL N im tl hl ia L) h) {Q : Flow → Shared → Prop}
    (next : ∀ h' t' nl v7 v8 v9, Sta G B (cenvC w 115 L) nF [d0, .ref kl, .int ways, .int ring, d4, .ref wl, .ref nl, v7, v8, v9] ((nl, Lst (iv (numsOf N im ks ways ring))) :: (wl, Lst (wordsV N im)) :: (kl, Lst (iv ks)) :: ledL N im tl hl ia L) h' → W prog w A (execs ((lawB w).drop 27) (cenvC w 115 L)) Q ⟨h', g, d, t' + 1, o⟩) :
    W prog w A (execs ((lawB w).drop 25) (cenvC w 115 L)) Q ⟨h, g, d, t + 1, o⟩ := by
  have hN8 := D.h8
  have hN4 := D.h4
  have klt := kept_lt D.pos hK
  refine xCons ?_
  refine xAssign ?_
  refine xList ?_
  refine xArgs ?_
  refine mkList I rfl fun nl h1 I1 => ?_
  refine sR I1 (i := 6) rfl fun h2 t2 I2 => ?_
  simp only [setAt] at I2
  refine xCons ?_
  refine xFor ?_
  refine xCall ?_
  refine bload gg I2.glob (b_range _) ?_
  refine xType ?_
  refine xArg ?_
  refine lI I2 (i := 3) rfl rfl fun _ => ?_
  refine xArgs ?_
  refine cRange I2 (by lia) (by lia) fun ot h3 t3 I3 => ?_
  rw [Int.toNat_natCast] at I3
  refine loop (n := ring) (ix := 7) (iterR (A := A) hh ot 0 ring) rfl
    (fun i vs ld => Ex3 fun v7 v8 v9 => vs = [d0, .ref kl, .int ways, .int ring, d4, .ref wl, .ref nl, v7, v8, v9] ∧ ld = (nl, Lst (iv ((List.range i).map fun r => numOf N im ring (ks.getD (r * ways) 0)))) :: (wl, Lst (wordsV N im)) :: (kl, Lst (iv ks)) :: ledL N im tl hl ia L)
    I3 ⟨_, _, _, rfl, rfl⟩ (fun _ _ _ _ _ _ => trivial) ?_ ?_
  · rintro i v vs ld h' t' hi rfl ⟨v7, v8, v9, rfl, rfl⟩ J
    refine W.gen fun QQ hQQ => ?_
    simp only [setAt] at J
    rw [show (0 : Int) + (i : Int) = (i : Int) by lia] at J
    have hir : i * ways < ks.length := by rw [hc]; exact Nat.mul_lt_mul_of_pos_right hi b1
    obtain ⟨e, he, hem⟩ : ∃ e, ks[i * ways]? = some e ∧ e ∈ ks := ⟨ks[i * ways], by simp [hir], List.getElem_mem _⟩
    have ge : ks.getD (i * ways) 0 = e := by rw [List.getD_eq_getElem?_getD, he, Option.getD_some]
    have heN := klt e hem
    have hiw : i * ways ≤ 8 * 8 := Nat.mul_le_mul (by lia) b5
    refine xCons ?_
    refine xAssign ?_
    refine xSub ?_
    refine xSub ?_
    refine lR J (i := 5) rfl rfl ?_
    refine xSub ?_
    refine lR J (i := 1) rfl rfl ?_
    refine xBin ?_
    refine lI J (i := 7) rfl rfl fun _ => ?_
    refine lI J (i := 2) rfl rfl fun _ => ?_
    refine iMul (mulOk (by lia)) fun _ _ => ?_
    rw [show (i : Int) * (ways : Int) = ((i * ways : Nat) : Int) by simp]
    refine tList (v := V.int (e : Nat)) (J.has (i := 3) rfl).r (by lia) (by lia) (by rw [Int.toNat_natCast, List.getElem?_map, he]; rfl) fun _ => ?_
    refine tList (v := V.str (ab (lettersOf N im e (2 * N)))) (J.has (i := 2) rfl).r (by lia) (by lia) (wordsV_at heN) fun _ => ?_
    refine xSlice ?_
    refine xPart0 ?_
    refine xPart ?_
    refine lI J (i := 3) rfl rfl fun _ => ?_
    refine tSliceAb J (by rw [letters_len]; lia) (by rw [letters_len]; lia) fun u4 h4 t4 J4 => ?_
    rw [letters_take (by lia)]
    refine sS J4 (i := 8) rfl fun h5 t5 J5 => ?_
    simp only [setAt] at J5
    obtain ⟨ls, hls⟩ : ∃ ls, lettersOf N im e ring = ls := ⟨_, rfl⟩
    have hlt := letters_lt D (x := e) (k := ring)
    have hll := letters_len N im e ring
    rw [hls] at J5 hlt hll
    refine xCons ?_
    refine xExpr ?_
    refine xMeth ?_
    refine lR J5 (i := 6) rfl rfl ?_
    refine mAppend (J5.has (i := 1) rfl) ?_
    refine xMeth1 ?_
    refine xArg ?_
    refine xCall ?_
    refine gload gg J5.glob (n_digits2int _) ?_
    refine xDef (ob := fnObj w.params 63) rfl ?_
    refine xArg ?_
    refine xComp (cl := []) ?_
    refine xCall ?_
    refine bload gg J5.glob (b_reversed _) ?_
    refine xType ?_
    refine xArg ?_
    refine xCall ?_
    refine bload gg J5.glob (b_list _) ?_
    refine xType ?_
    refine xArg ?_
    refine lS J5 (i := 8) rfl rfl fun _ => ?_
    refine xArgs ?_
    refine cListAb hh J5 (by lia) fun sl h6 t6 J6 => ?_
    refine xArgs ?_
    refine cRev J6 (J6.has (i := 0) rfl).r fun a h7 J7 => ?_
    refine pIterV (J7.has (i := 0) rfl) ?_
    have nd := J7.dist
    simp only [List.map_cons, List.map_nil, List.nodup_cons, List.mem_cons, List.not_mem_nil, or_false, not_or] at nd
    have hlen : (ls.map fun x => V.str (ab [x])).length = ring := by simp [hll]
    refine compIt (n := (ls.map fun x => V.str (ab [x])).length) (iterV (A := A) hh a sl (ls.map fun x => V.str (ab [x])) (by intro v hv; obtain ⟨z, _, rfl⟩ := List.mem_map.mp hv; trivial)) J7 (by rw [hlen]; lia) (fun k => V.int ((ls.reverse.getD k 0 : Nat) : Int)) ?_ ?_ (fun _ _ => trivial) fun D' h8 t8 J8 => ?_
    · intro h' hk
      exact hk _ _ (J7.has (i := 1) rfl).r (Ne.symm nd.1.1) (J7.n5 (i := 1) rfl).1 (J7.n5 (i := 1) rfl).2
    · rintro j v C h' t' B' ex hj ⟨_, hv⟩ hB K
      rw [hlen] at hj hv
      have hz : ring - 1 - j < ls.length := by lia
      obtain ⟨z, hz1, hz2⟩ : ∃ z, ls[ring - 1 - j]? = some z ∧ z ∈ ls := ⟨ls[ring - 1 - j], by simp [hz], List.getElem_mem _⟩
      have ev : v = V.str (ab [z]) := by
        rw [List.getElem?_map, hz1] at hv
        exact (Option.some.inj hv).symm
      subst ev
      have gz : ls.reverse.getD j 0 = z := by
        rw [List.getD_eq_getElem?_getD, List.getElem?_reverse (by lia), hll, hz1, Option.getD_some]
      have z2 := hlt z hz2
      refine xIfExp ?_
      refine xTest ?_
      refine lS K (i := 0) rfl rfl fun _ => ?_
      refine cStr fun _ _ => ?_
      refine sEq ?_
      refine tBool ?_
      rw [gz]
      by_cases q : z = 1
      · refine br_t (by rw [ab_is_b z z2, q]; rfl) ?_
        refine cInt fun u9 t9 => ?_
        exact ⟨_, _, u9, [], rfl, by rw [q]; rfl, K⟩
      · refine br_f (by rw [ab_is_b z z2]; simp [q]) ?_
        refine cInt fun u9 t9 => ?_
        have z0 : z = 0 := by lia
        exact ⟨_, _, u9, [], rfl, by rw [z0]; rfl, K⟩
    · have el : (List.range (ls.map fun x => V.str (ab [x])).length).map (fun k => V.int ((ls.reverse.getD k 0 : Nat) : Int)) = iv ls.reverse := by
        rw [hlen]
        apply List.ext_getElem
        · simp [hll]
        · intro j h1 h2
          have hj : j < ls.reverse.length := by simpa using h2
          simp only [List.getElem_map, List.getElem_range, iv]
          rw [List.getD_eq_getElem?_getD, List.getElem?_eq_getElem hj, Option.getD_some]
      rw [el] at J8
      refine xArg ?_
      refine cInt fun _ _ => ?_
      refine xArgs ⟨J8.glob.keep _ _ (gg.X 63 _ (by kernel_rfl)), ?_⟩
      refine digits2int_ok (n := 1) gg J8.glob (by lia) (J8.has (i := 0) rfl).r (J8.n5 (i := 0) rfl) (fun x hx => hlt x (List.mem_reverse.mp hx)) (by rw [List.length_reverse, hll]; lia) (by rw [List.length_reverse, hll]; lia) (by lia) fun h9 t9 u9 K9 G9 => ?_
      have J9 := J8.back K9 G9
      have J9 := J9.pick [2, 3, 4, 5, 6, 7, 8, 9, 10] (by decide) rfl
      refine xArgs ?_
      refine cAppend J9 (i := 1) rfl (fit64 (by simp; lia)) fun h10 J10 => ?_
      simp only [setAt] at J10
      refine xNil ?_
      refine hQQ _ _ ⟨h10, _, _, _, rfl, J10, _, _, _, rfl, ?_⟩
      rw [List.range_succ, List.map_append]
      simp only [List.map_cons, List.map_nil, ge]
      unfold numOf
      rw [hls]
      simp [iv, V.of]
  · rintro vs ld h' t' ⟨_, _, _, rfl, rfl⟩ J
    exact next _ _ _ _ _ _ J
end
end Mine
end PartMLawG

section PartMLawH
open PySem PySem.W PyProof.Rows
set_option autoImplicit false
set_option linter.unusedVariables false
namespace Mine
theorem sum_cast : ∀ l : List Nat, (l.map fun (i : Nat) => (i : Int)).sum = ((l.sum : Nat) : Int)
  | [] => rfl
  | a :: l => by rw [List.map_cons, List.sum_cons, List.sum_cons, sum_cast l]; lia
theorem same_sorted : ∀ {a b : List Int}, a.Pairwise (· < ·) → b.Pairwise (· < ·) → (∀ k, k ∈ a ↔ k ∈ b) → a = b
  | [], [], _, _, _ => rfl
  | [], y :: b, _, _, h => absurd ((h y).mpr (.head _)) (by simp)
  | x :: a, [], _, _, h => absurd ((h x).mp (.head _)) (by simp)
  | x :: a, y :: b, ha, hb, h => by
    rw [List.pairwise_cons] at ha hb
    have hxy : x = y := by
      rcases List.mem_cons.mp ((h x).mp (.head _)) with e | e
      · exact e
      · rcases List.mem_cons.mp ((h y).mpr (.head _)) with e' | e'
        · exact e'.symm
        · have := hb.1 x e
          have := ha.1 y e'
          lia
    subst hxy
    rw [same_sorted ha.2 hb.2 fun k => ?_]
    constructor
    · intro hk
      rcases List.mem_cons.mp ((h k).mp (.tail _ hk)) with e | e
      · have := ha.1 k hk; lia
      · exact e
    · intro hk
      rcases List.mem_cons.mp ((h k).mpr (.tail _ hk)) with e | e
      · have := hb.1 k hk; lia
      · exact e
theorem pow_le {ring : Nat} (h : ring ≤ 8) : 2 ^ ring ≤ 256 := Nat.pow_le_pow_right (n := 2) (by decide) h
theorem big_no {ring : Nat} (h : ring ≤ 8) : Builtin.Int.intTooBig (((Builtin.Int.intBits 2 : Nat) : Int) * (ring : Int)) = false := by
  have e : Builtin.Int.intBits 2 = 2 := by decide +kernel
  rw [e]
  have : ∀ r : Nat, r ≤ 8 → Builtin.Int.intTooBig (((2 : Nat) : Int) * (r : Int)) = false := by
    intro r hr
    match r, hr with
    | 0, _ => decide +kernel
    | 1, _ => decide +kernel
    | 2, _ => decide +kernel
    | 3, _ => decide +kernel
    | 4, _ => decide +kernel
    | 5, _ => decide +kernel
    | 6, _ => decide +kernel
    | 7, _ => decide +kernel
    | 8, _ => decide +kernel
    | r + 9, hr => lia
  exact this ring h

section
variable {prog : Program} {w : World} {A : Around} {G B h : Heap} {g : Array GenState} {d : Drawn} {t : Nat} {o : OsState} {mg mb : Str → Option Value} {L : Addr}
theorem segG (gg : GG w G mg mb) (hh : A.handled = none) (hu : A.units + 300 < cLine) (hroom : A.depth + 200 < recursionLimit) {N ways ring rounds : Nat} {im ks nums : List Nat} {ia tl hl kl wl nl : Addr} (D : Deg N im) (hK : KeptAt N im N ks)
    (b1 : 0 < ways) (b2 : 0 < ring) (b3 : ring ≤ 8) (b4 : rounds ≤ 16) (b5 : ways ≤ 8) (hc : ks.length = ring * ways) (hnl : nums.length = ring)
    (P1 : nums.Pairwise (· < ·)) (P2 : ∀ x ∈ nums, x < 256) (P3 : goodP (setP true (nums.map fun (i : Nat) => (i : Int))) = true) (P4 : nums.sum = rounds * (2 ^ ring - 1))
    (P5 : 1 < ring → ∀ r, r < ring → 2 * nums.getD r 0 = turnOf N im (ks.getD (r * ways) 0) * (2 ^ ring - 1) + nums.getD ((r + rounds) % ring) 0 ∧ nums.getD ((r + rounds) % ring) 0 < 2 ^ ring - 1)
    {v7 v8 v9 : V}
    (I : Sta G B (cenvC w 115 L) nF [.ref tl, .ref kl, .int ways, .int ring, .int rounds, .ref wl, .ref nl, v7, v8, v9] ((nl, Lst (iv nums)) :: (wl, Lst (wordsV N im)) :: (kl, Lst (iv ks)) :: ledL N im tl hl ia L) h) {Q : Flow → Shared → Prop}
    (done : ∀ h' t', Sta G B (cenvC w 115 L) nF [.unb, .unb, .unb, .unb, .unb, .unb, .unb, .unb, .unb, .unb] [] h' → Q (.ret (.bool true)) ⟨h', g, d, t' + 1, o⟩) :
    W prog w A (execs ((lawB w).drop 27) (cenvC w 115 L)) Q ⟨h, g, d, t + 1, o⟩ := by
  have hN8 := D.h8
  have hN4 := D.h4
  have klt := kept_lt D.pos hK
  have hp2 := pow_le b3
  have hp1 : 2 ≤ 2 ^ ring := Nat.pow_le_pow_right (n := 2) (by decide) b2
  have epow : (2 : Int) ^ ((ring : Nat) : Int).toNat - 1 = ((2 ^ ring - 1 : Nat) : Int) := by rw [Int.toNat_natCast, pow2N]; lia
  have hmulb : rounds * (2 ^ ring - 1) ≤ 16 * 255 := Nat.mul_le_mul b4 (by lia)
  refine xCons ?_
  refine xIf ?_
  refine xOr ?_
  refine xTest ?_
  refine lR I (i := 6) rfl rfl ?_
  refine xCall ?_
  refine bload gg I.glob (b_sorted _) ?_
  refine xBuiltin ?_
  refine xArg ?_
  refine xCall ?_
  refine bload gg I.glob (b_set _) ?_
  refine xType ?_
  refine xArg ?_
  refine lR I (i := 6) rfl rfl ?_
  refine xArgs ?_
  have X1 := (I.has (i := 0) rfl).r
  rw [iv_int] at X1
  refine cSet hh I X1 (fun k hk => by
    obtain ⟨z, hz, rfl⟩ := List.mem_map.mp hk
    have := P2 z hz
    exact ⟨by lia, by lia⟩) (by simp; lia) fun sa h1 t1 I1 => ?_
  refine xArgs ?_
  refine cSortSet hh I1 (I1.has (i := 0) rfl) P3 (by simp; lia) fun K h2 t2 ks2 I2 hs2 hm2 => ?_
  have es : nums.map (fun (i : Nat) => (i : Int)) = ks2 := by
    refine same_sorted ?_ hs2 fun k => (hm2 k).symm
    rw [List.pairwise_map]
    exact P1.imp fun q => by lia
  have X2 := (I2.has (i := 2) rfl).r
  rw [iv_int] at X2
  refine lNe X2 (I2.has (i := 0) rfl).r (by lia) ?_
  refine tBool ?_
  refine br_f (by rw [es]; simp) ?_
  have I2 := I2.pick [2, 3, 4, 5, 6, 7, 8, 9] (by decide) rfl
  refine xOr ?_
  refine xTest ?_
  refine xCall ?_
  refine gload gg I2.glob (n_int_divmod _) ?_
  refine xDef (ob := fnObj w.params 77) rfl ?_
  refine xArg ?_
  refine xCall ?_
  refine bload gg I2.glob (b_sum _) ?_
  refine xBuiltin ?_
  refine xArg ?_
  refine lR I2 (i := 6) rfl rfl ?_
  refine xArgs ?_
  have X3 := (I2.has (i := 0) rfl).r
  rw [iv_int] at X3
  refine cSum hh X3 fun h3 _ _ K3 => ?_
  have I3 := I2.ext K3
  rw [sum_cast, P4]
  refine xArg ?_
  refine xBin ?_
  refine xBin ?_
  refine cInt fun _ _ => ?_
  refine lI I3 (i := 3) rfl rfl fun _ => ?_
  refine iPow (by lia) (by decide) (big_no b3) fun _ _ => ?_
  refine cInt fun _ _ => ?_
  refine iSub fun _ _ => ?_
  rw [epow]
  refine xArgs ⟨I3.glob.keep _ _ (gg.X 77 _ (by kernel_rfl)), ?_⟩
  refine int_divmod_ok gg I3.glob (by lia) hh (by lia) (by lia) (by lia) fun h4 t4 r4 K4 G4 f4 x4 => ?_
  obtain ⟨o4, e4, p4⟩ := x4
  have I4 := I3.push K4 G4 f4 e4 p4
  refine xTuple ?_
  refine xArg ?_
  refine lI I4 (i := 4) rfl rfl fun _ => ?_
  refine xArg ?_
  refine cInt fun _ _ => ?_
  refine xArgs ?_
  refine mkTuple I4 rfl fun r5 h5 I5 => ?_
  have hm0 : 0 < 2 ^ ring - 1 := by lia
  refine neI2 (I5.has (i := 1) rfl) (I5.has (i := 0) rfl) (by lia) (by rw [Nat.mul_div_cancel _ hm0]) (by rw [Nat.mul_mod_left]; rfl) ?_
  refine tBool ?_
  refine br_f rfl ?_
  refine xOr0 ?_
  refine br_f rfl ?_
  refine xNil ?_
  have I5 := I5.tail.tail
  -- doubling
  refine xCons ?_
  refine xFor ?_
  refine xCall ?_
  refine bload gg I5.glob (b_range _) ?_
  refine xType ?_
  refine xArg ?_
  refine lI I5 (i := 3) rfl rfl fun _ => ?_
  refine xArgs ?_
  refine cRange I5 (by lia) (by lia) fun ot h6 t6 I6 => ?_
  rw [Int.toNat_natCast] at I6
  refine loop (n := ring) (ix := 7) (iterR (A := A) hh ot 0 ring) rfl
    (fun i vs ld => Ex3 fun v7 v8 v9 => vs = [.ref tl, .ref kl, .int ways, .int ring, .int rounds, .ref wl, .ref nl, v7, v8, v9] ∧ ld = (nl, Lst (iv nums)) :: (wl, Lst (wordsV N im)) :: (kl, Lst (iv ks)) :: ledL N im tl hl ia L)
    I6 ⟨_, _, _, rfl, rfl⟩ (fun _ _ _ _ _ _ => trivial) ?_ ?_
  · rintro i v vs ld h' t' hi rfl ⟨v7, v8, v9, rfl, rfl⟩ J
    refine W.gen fun QQ hQQ => ?_
    simp only [setAt] at J
    rw [show (0 : Int) + (i : Int) = (i : Int) by lia] at J
    have hir : i * ways < ks.length := by rw [hc]; exact Nat.mul_lt_mul_of_pos_right hi b1
    obtain ⟨e, he, hem⟩ : ∃ e, ks[i * ways]? = some e ∧ e ∈ ks := ⟨ks[i * ways], by simp [hir], List.getElem_mem _⟩
    have ge : ks.getD (i * ways) 0 = e := by rw [List.getD_eq_getElem?_getD, he, Option.getD_some]
    have heN := klt e hem
    have hei : e < im.length := by rw [D.len]; exact heN
    have hiw : i * ways ≤ 8 * 8 := Nat.mul_le_mul (by lia) b5
    have hmr : (i + rounds) % ring < ring := Nat.mod_lt _ b2
    have hT : (iv (im.map (· / N)))[((e : Nat) : Int).toNat]? = some (V.int (turnOf N im e : Nat)) := by
      rw [Int.toNat_natCast]
      simp only [iv, List.map_map, List.getElem?_map, List.getElem?_eq_getElem hei, Option.map_some]
      unfold turnOf
      rw [Nat.mod_eq_of_lt heN, List.getD_eq_getElem?_getD, List.getElem?_eq_getElem hei]; rfl
    have hNum : ∀ r, r < ring → (iv nums)[((r : Nat) : Int).toNat]? = some (V.int (nums.getD r 0 : Nat)) := fun r hr => by
      rw [Int.toNat_natCast, List.getElem?_map, List.getElem?_eq_getElem (by lia), Option.map_some, List.getD_eq_getElem?_getD, List.getElem?_eq_getElem (by lia), Option.getD_some]
    have n256 : ∀ r, r < ring → nums.getD r 0 < 256 := fun r hr => by
      rw [List.getD_eq_getElem?_getD, List.getElem?_eq_getElem (by lia), Option.getD_some]
      exact P2 _ (List.getElem_mem _)
    refine xCons ?_
    refine xAssign ?_
    refine xTuple ?_
    refine xArg ?_
    refine xSub ?_
    refine lR J (i := 0) rfl rfl ?_
    refine xSub ?_
    refine lR J (i := 1) rfl rfl ?_
    refine xBin ?_
    refine lI J (i := 7) rfl rfl fun _ => ?_
    refine lI J (i := 2) rfl rfl fun _ => ?_
    refine iMul (mulOk (by lia)) fun _ _ => ?_
    rw [show (i : Int) * (ways : Int) = ((i * ways : Nat) : Int) by simp]
    refine tList (v := V.int (e : Nat)) (J.has (i := 3) rfl).r (by lia) (by lia) (by rw [Int.toNat_natCast, List.getElem?_map, he]; rfl) fun _ => ?_
    refine tList (v := V.int (turnOf N im e : Nat)) (J.has (i := 4) rfl).r (by lia) (by lia) hT fun _ => ?_
    refine xArg ?_
    refine xSub ?_
    refine lR J (i := 6) rfl rfl ?_
    refine xBin ?_
    refine xBin ?_
    refine lI J (i := 7) rfl rfl fun _ => ?_
    refine lI J (i := 4) rfl rfl fun _ => ?_
    refine iAdd fun _ _ => ?_
    rw [show (i : Int) + (rounds : Int) = ((i + rounds : Nat) : Int) by simp]
    refine lI J (i := 3) rfl rfl fun _ => ?_
    refine iMod hh (by lia) fun _ _ => ?_
    rw [fmodN]
    refine tList (v := V.int (nums.getD ((i + rounds) % ring) 0 : Nat)) (J.has (i := 1) rfl).r (by lia) (by lia) (hNum _ hmr) fun _ => ?_
    refine xArgs ?_
    refine mkTuple J rfl fun r7 h7 J7 => ?_
    refine sR J7 (i := 9) rfl fun h8 t8 J8 => ?_
    simp only [setAt] at J8
    refine xCons ?_
    refine xIf ?_
    refine xAnd ?_
    refine xTest ?_
    refine lI J8 (i := 3) rfl rfl fun _ => ?_
    refine cInt fun _ _ => ?_
    refine iGt ?_
    refine tBool ?_
    by_cases q : decide ((1 : Int) < (ring : Int)) = true
    · refine br_t q ?_
      have hr1 : 1 < ring := by have := of_decide_eq_true q; lia
      obtain ⟨e5, l5⟩ := P5 hr1 i hi
      rw [ge] at e5
      have n1 := n256 i hi
      refine xAnd ?_
      refine xTest ?_
      refine xCall ?_
      refine gload gg J8.glob (n_int_divmod _) ?_
      refine xDef (ob := fnObj w.params 77) rfl ?_
      refine xArg ?_
      refine xBin ?_
      refine cInt fun _ _ => ?_
      refine xSub ?_
      refine lR J8 (i := 6) rfl rfl ?_
      refine lI J8 (i := 7) rfl rfl fun _ => ?_
      refine tList (v := V.int (nums.getD i 0 : Nat)) (J8.has (i := 2) rfl).r (by lia) (by lia) (hNum _ hi) fun _ => ?_
      refine iMul (mulOk (by decide)) fun _ _ => ?_
      rw [show (2 : Int) * ((nums.getD i 0 : Nat) : Int) = ((2 * nums.getD i 0 : Nat) : Int) by simp]
      refine xArg ?_
      refine xBin ?_
      refine xBin ?_
      refine cInt fun _ _ => ?_
      refine lI J8 (i := 3) rfl rfl fun _ => ?_
      refine iPow (by lia) (by decide) (big_no b3) fun _ _ => ?_
      refine cInt fun _ _ => ?_
      refine iSub fun _ _ => ?_
      rw [epow]
      refine xArgs ⟨J8.glob.keep _ _ (gg.X 77 _ (by kernel_rfl)), ?_⟩
      refine int_divmod_ok gg J8.glob (by lia) hh (by lia) (by lia) (by lia) fun h9 t9 r9 K9 G9 f9 x9 => ?_
      have J9 := J8.back K9 G9
      refine lR J9 (i := 9) rfl rfl ?_
      have q1 : 2 * nums.getD i 0 / (2 ^ ring - 1) = turnOf N im e := by
        rw [e5, Nat.mul_comm, Nat.mul_add_div hm0, Nat.div_eq_of_lt l5]; lia
      have q2 : 2 * nums.getD i 0 % (2 ^ ring - 1) = nums.getD ((i + rounds) % ring) 0 := by
        rw [e5, Nat.mul_comm, Nat.mul_add_mod, Nat.mod_eq_of_lt l5]
      refine neI2 x9 (J9.has (i := 0) rfl) (by lia) (by rw [q1]) (by rw [q2]) ?_
      refine tBool ?_
      refine br_f rfl ?_
      refine br_f rfl ?_
      refine xNil ?_
      refine xNil ?_
      exact hQQ _ _ ⟨_, _, _, _, rfl, J9.tail, _, _, _, rfl, rfl⟩
    · refine br_n q ?_
      refine br_f rfl ?_
      refine xNil ?_
      refine xNil ?_
      exact hQQ _ _ ⟨_, _, _, _, rfl, J8.tail, _, _, _, rfl, rfl⟩
  · rintro vs ld h' t' ⟨_, _, _, rfl, rfl⟩ J
    refine xCons ?_
    refine xReturn ?_
    refine xBool ?_
    refine done _ _ ?_
    have J' := J.pick [] (by simp) rfl
    exact J'.revals fun i dd h1 h2 => absurd (nth_unbs (n := 10) h1) h2
end
end Mine
end PartMLawH

section PartMLawS
open PySem PySem.W PyProof.Rows
set_option autoImplicit false
set_option linter.unusedVariables false
namespace Mine
abbrev nS : List Str := [Str.ofString "script", Str.ofString "cells", Str.ofString "first", Str.ofString "look", Str.ofString "steps", Str.ofString "tail", Str.ofString "row", Str.ofString "share", Str.ofString "level", Str.ofString "turns", Str.ofString "heads"]
def tailOf : Nat → List Int
  | 0 => [0]
  | 1 => [127, 2]
  | 2 => []
  | _ => [0, 3]
structure StOK (st : List Int) : Prop where
  lo : 1 ≤ st.length
  hi : st.length ≤ 5
  mem : ∀ x ∈ st, 1 ≤ x ∧ x ≤ 4
theorem StOK.row {st : List Int} (x : StOK st) (k : Nat) : RowOK st (tailOf k) where
  ne := x.lo
  st := fun y hy => by have := x.mem y hy; lia
  tail := by
    match k with
    | 0 => exact .inr (.inl rfl)
    | 1 => exact .inr (.inr rfl)
    | 2 => exact .inl rfl
    | k + 3 => exact .inr (.inl rfl)
theorem tailOf_len (k : Nat) : (tailOf k).length ≤ 2 := by
  match k with
  | 0 => decide
  | 1 => decide
  | 2 => decide
  | k + 3 => exact Nat.le_refl 2
theorem Lst.ints {ns : List Int} {o : Obj} (x : Lst (ns.map .int) o) : Lst (ns.map .int) o := x

section
variable {prog : Program} {w : World} {A : Around} {G B h : Heap} {g : Array GenState} {d : Drawn} {t : Nat} {o : OsState} {mg mb : Str → Option Value} {L : Addr}
theorem segS (gg : GG w G mg mb) (hh : A.handled = none) (hu : A.units + 300 < cLine) (hroom : A.depth + 200 < recursionLimit) {a : Addr} {ns : List Int} (hs : Has B a (LstR (ns.map .int))) (n5 : a ≠ 51 ∧ a ≠ 58) (hlen : ns.length ≤ 63) (hgb : AllBare g)
    (HI : ∀ (N f k : Nat) (st : List Int), 4 ≤ N → N ≤ 8 → f < N → StOK st → imagesF N f st (tailOf k) = dueF N f st (tailOf k))
    (I : Sta G B (cenvC w 115 L) nS [.ref a, .unb, .unb, .unb, .unb, .unb, .unb, .unb, .unb, .unb, .unb] [(L + 1, Cel0), (L + 1 + 1, Cel0)] h) {Q : Flow → Shared → Prop}
    (next : ∀ h' g' t' (N f k sh lv : Nat) (st : List Int) ia tl hl v0 v1 v2 v3 v4 v5 v6, AllBare g' → 4 ≤ N → N ≤ 8 → f < N → StOK st → sh < 4 → lv < 4 →
      Sta G B (cenvC w 115 L) nS [v0, v1, v2, v3, v4, v5, v6, .float (fq (1 + sh) 4), .float (fq (1 + lv) 4), .ref tl, .ref hl] [(tl, Lst []), (hl, Lst []), (ia, LstR ((imagesF N f st (tailOf k)).map .int)), (L + 1, Cel (.int N)), (L + 1 + 1, Cel (.ref ia))] h' →
      W prog w A (execs ((lawB w).drop 13) (cenvC w 115 L)) Q ⟨h', g', d, t' + 1, o⟩) :
    W prog w A (execs (lawB w) (cenvC w 115 L)) Q ⟨h, g, d, t + 1, o⟩ := by
  -- cells
  refine xCons ?_
  refine xAssign ?_
  refine xCall ?_
  refine gload gg I.glob (n_law_cells _) ?_
  refine xDef (ob := fnObj w.params 98) rfl ?_
  refine xArg ?_
  refine lR I (i := 0) rfl rfl ?_
  refine xArgs ⟨I.glob.keep _ _ (gg.X 98 _ (by kernel_rfl)), ?_⟩
  refine law_cells_ok gg I.glob (by lia) hh (I.old hs n5) n5 hlen fun h1 t1 ca cs K1 G1 f1 x1 hcl hcb => ?_
  obtain ⟨oc, ec, pc⟩ := x1
  have I1 := I.push K1 G1 f1 ec pc
  refine sR I1 (i := 1) rfl fun h2 t2 I2 => ?_
  simp only [setAt] at I2
  have cell : ∀ i, i < 8 → ∃ c : Nat, cs[i]? = some (c : Int) ∧ c < 1000000000 := fun i hi => by
    have hlt : i < cs.length := by lia
    obtain ⟨h0, h9⟩ := hcb _ (List.getElem_mem hlt)
    obtain ⟨c, hc⟩ := Int.eq_ofNat_of_zero_le h0
    exact ⟨c, by rw [List.getElem?_eq_getElem hlt, hc], by lia⟩
  obtain ⟨c0, hc0, c0b⟩ := cell 0 (by lia)
  obtain ⟨c1, hc1, c1b⟩ := cell 1 (by lia)
  obtain ⟨c7, hc7, c7b⟩ := cell 7 (by lia)
  have at_ : ∀ {i : Nat} {c : Nat}, cs[i]? = some (c : Int) → (cs.map V.int)[i]? = some (V.int (c : Nat)) := fun e => by rw [List.getElem?_map, e]; rfl
  obtain ⟨N, hN⟩ : ∃ N, N = 4 + c0 % 5 := ⟨_, rfl⟩
  have hN4 : 4 ≤ N := by lia
  have hN8 : N ≤ 8 := by lia
  -- size
  refine xCons ?_
  refine xAssign ?_
  refine xBin ?_
  refine cInt fun _ _ => ?_
  refine xBin ?_
  refine xSub ?_
  refine lR I2 (i := 1) rfl rfl ?_
  refine cInt fun _ _ => ?_
  refine tList (v := V.int (c0 : Nat)) (I2.has (i := 0) rfl) (by decide) (by decide) (at_ hc0) fun _ => ?_
  refine cInt fun _ _ => ?_
  refine iMod hh (by decide) fun _ _ => ?_
  refine iAdd fun _ _ => ?_
  have eN : (4 : Int) + ((c0 : Nat) : Int).fmod 5 = (N : Int) := by
    rw [show (5 : Int) = ((5 : Nat) : Int) from rfl, fmodN]; lia
  rw [eN]
  refine sC I2 (i := 1) rfl (fun _ p => p) fun h3 I3 => ?_
  simp only [setAt, V.of] at I3
  -- first
  refine xCons ?_
  refine xAssign ?_
  refine xBin ?_
  refine xSub ?_
  refine lR I3 (i := 1) rfl rfl ?_
  refine cInt fun _ _ => ?_
  refine tList (v := V.int (c1 : Nat)) (I3.has (i := 0) rfl) (by decide) (by decide) (at_ hc1) fun _ => ?_
  refine lC (I3.has (i := 1) rfl) fun _ => ?_
  refine iMod hh (by lia) fun _ _ => ?_
  rw [fmodN]
  refine sI I3 (i := 2) rfl fun h4 t4 I4 => ?_
  simp only [setAt] at I4
  obtain ⟨f, hf⟩ : ∃ f, c1 % N = f := ⟨_, rfl⟩
  have hfN : f < N := by rw [← hf]; exact Nat.mod_lt _ (by lia)
  rw [hf] at I4
  -- look
  refine xCons ?_
  refine xAssign ?_
  refine xSub ?_
  refine lR I4 (i := 1) rfl rfl ?_
  refine cInt fun _ _ => ?_
  refine tList (v := V.int (c7 : Nat)) (I4.has (i := 0) rfl) (by decide) (by decide) (at_ hc7) fun _ => ?_
  refine sI I4 (i := 3) rfl fun h5 t5 I5 => ?_
  simp only [setAt] at I5
  -- steps
  refine xCons ?_
  refine xAssign ?_
  refine xSub ?_
  refine xComp (cl := []) ?_
  refine xSub ?_
  refine lR I5 (i := 1) rfl rfl ?_
  refine xSlice ?_
  refine xPart ?_
  refine cInt fun _ _ => ?_
  refine xPart ?_
  refine cInt fun _ _ => ?_
  refine tSlice I5 (I5.has (i := 0) rfl) (.int _ _) (.int _ _) (fit64 (by simp; lia)) fun sl h6 I6 => ?_
  have esl : ((cs.map V.int).drop ((some (2 : Int)).elim 0 (clipAt (cs.map V.int).length))).take ((some (7 : Int)).elim (cs.map V.int).length (clipAt (cs.map V.int).length) - (some (2 : Int)).elim 0 (clipAt (cs.map V.int).length)) = ((cs.drop 2).take 5).map V.int := by
    rw [List.length_map, hcl]
    show ((cs.map V.int).drop (clipAt 8 2)).take (clipAt 8 7 - clipAt 8 2) = _
    rw [show clipAt 8 2 = 2 by decide, show clipAt 8 7 - 2 = 5 by decide, ← List.map_drop, ← List.map_take]
  rw [esl] at I6
  obtain ⟨xs, hxs⟩ : ∃ xs, (cs.drop 2).take 5 = xs := ⟨_, rfl⟩
  have hxl : xs.length = 5 := by rw [← hxs]; simp; lia
  rw [hxs] at I6
  refine pIterL I6 (I6.has (i := 0) rfl).r fun ita h7 I7 => ?_
  have nd := I7.dist
  simp only [List.map_cons, List.map_nil, List.nodup_cons, List.mem_cons, List.not_mem_nil, or_false, not_or] at nd
  have hxv : (xs.map V.int).length = 5 := by simp [hxl]
  refine compIt (n := (xs.map V.int).length) (iterL (A := A) hh ita sl (xs.map V.int) (by intro v hv; obtain ⟨z, _, rfl⟩ := List.mem_map.mp hv; trivial)) I7 (by rw [hxv]; lia) (fun k => V.int (1 + (xs.getD k 0).fmod 4)) ?_ ?_ (fun _ _ => trivial) fun D' h8 t8 I8 => ?_
  · intro h' hk
    exact hk _ _ (I7.has (i := 1) rfl).r (Ne.symm nd.1.1) (I7.n5 (i := 1) rfl).1 (I7.n5 (i := 1) rfl).2
  · rintro j v C h' t' B' ex hj hv hB K
    rw [hxv] at hj
    obtain ⟨z, hz, ev⟩ : ∃ z, xs[j]? = some z ∧ v = V.int z := by
      refine ⟨xs[j], by simp [hxl, hj], ?_⟩
      simp only [List.getElem?_map, List.getElem?_eq_getElem (show j < xs.length by lia), Option.map_some] at hv
      exact (Option.some.inj hv).symm
    subst ev
    refine xBin ?_
    refine cInt fun _ _ => ?_
    refine xBin ?_
    refine lI K (i := 0) rfl rfl fun _ => ?_
    refine cInt fun _ _ => ?_
    refine iMod hh (by decide) fun _ _ => ?_
    refine iAdd fun u9 t9 => ?_
    have eg : xs.getD j 0 = z := by rw [List.getD_eq_getElem?_getD, hz, Option.getD_some]
    exact ⟨_, _, u9, [], rfl, by rw [eg], K⟩
  have est : (List.range (xs.map V.int).length).map (fun k => V.int (1 + (xs.getD k 0).fmod 4)) = (xs.map fun x => 1 + x.fmod 4).map V.int := by
    rw [hxv]
    apply List.ext_getElem
    · simp [hxl]
    · intro j h1 h2
      have hj : j < xs.length := by simpa [hxl] using h1
      simp [List.getD_eq_getElem?_getD, List.getElem?_eq_getElem hj]
  rw [est] at I8
  refine xSlice ?_
  refine xPart0 ?_
  refine xPart ?_
  refine xBin ?_
  refine cInt fun _ _ => ?_
  refine xBin ?_
  refine xBin ?_
  refine lI I8 (i := 3) rfl rfl fun _ => ?_
  refine cInt fun _ _ => ?_
  refine iDiv (by decide) (noPl (by decide)) fun _ _ => ?_
  refine cInt fun _ _ => ?_
  refine iMod hh (by decide) fun _ _ => ?_
  refine iAdd fun _ _ => ?_
  have ey : (1 : Int) + (((c7 : Nat) : Int).fdiv 64).fmod 5 = ((1 + c7 / 64 % 5 : Nat) : Int) := by
    rw [show (64 : Int) = ((64 : Nat) : Int) from rfl, fdivN, show (5 : Int) = ((5 : Nat) : Int) from rfl, fmodN]; lia
  rw [ey]
  refine tSliceTo I8 (I8.has (i := 0) rfl).r (by lia) (by simp; lia) fun sa h9 I9 => ?_
  rw [Int.toNat_natCast, ← List.map_take] at I9
  obtain ⟨st, hst⟩ : ∃ st, (xs.map fun x => 1 + x.fmod 4).take (1 + c7 / 64 % 5) = st := ⟨_, rfl⟩
  have hok : StOK st := by
    refine ⟨?_, ?_, fun x hx => ?_⟩
    · rw [← hst]; simp [hxl]; lia
    · rw [← hst]; simp [hxl]; lia
    · rw [← hst] at hx
      obtain ⟨z, _, rfl⟩ := List.mem_map.mp (List.mem_of_mem_take hx)
      have m0 := Int.fmod_nonneg_of_pos z (b := 4) (by decide)
      have m1 := Int.fmod_lt_of_pos z (b := 4) (by decide)
      lia
  rw [hst] at I9
  have I9 := I9.pick [0, 4, 5] (by decide) rfl
  refine sR I9 (i := 4) rfl fun h10 t10 I10 => ?_
  simp only [setAt] at I10
  -- tail
  refine xCons ?_
  refine xAssign ?_
  refine xSub ?_
  refine xList ?_
  refine xArg ?_
  refine xList ?_
  refine xArg ?_
  refine cInt fun _ _ => ?_
  refine xArgs ?_
  refine mkList I10 rfl fun a0 h11 I11 => ?_
  refine xArg ?_
  refine xList ?_
  refine xArg ?_
  refine cInt fun _ _ => ?_
  refine xArg ?_
  refine cInt fun _ _ => ?_
  refine xArgs ?_
  refine mkList I11 rfl fun a1 h12 I12 => ?_
  refine xArg ?_
  refine xList ?_
  refine xArgs ?_
  refine mkList I12 rfl fun a2 h13 I13 => ?_
  refine xArg ?_
  refine xList ?_
  refine xArg ?_
  refine cInt fun _ _ => ?_
  refine xArg ?_
  refine cInt fun _ _ => ?_
  refine xArgs ?_
  refine mkList I13 rfl fun a3 h14 I14 => ?_
  refine xArgs ?_
  refine mkList I14 rfl fun tt h15 I15 => ?_
  refine xBin ?_
  refine xBin ?_
  refine lI I15 (i := 3) rfl rfl fun _ => ?_
  refine cInt fun _ _ => ?_
  refine iDiv (by decide) (noPl (by decide)) fun _ _ => ?_
  refine cInt fun _ _ => ?_
  refine iMod hh (by decide) fun _ _ => ?_
  obtain ⟨k, hk⟩ : ∃ k, c7 / 16 % 4 = k := ⟨_, rfl⟩
  have hk4 : k < 4 := by lia
  have ek : (((c7 : Nat) : Int).fdiv 16).fmod 4 = (k : Int) := by
    rw [show (16 : Int) = ((16 : Nat) : Int) from rfl, fdivN, show (4 : Int) = ((4 : Nat) : Int) from rfl, fmodN, hk]
  rw [ek]
  obtain ⟨ta, hta, I16⟩ : ∃ ta, ([V.ref a0, V.ref a1, V.ref a2, V.ref a3] : List V)[((k : Nat) : Int).toNat]? = some (V.ref ta) ∧
      Sta G B (cenvC w 115 L) nS [.ref a, .ref ca, .int f, .int c7, .ref sa, .unb, .unb, .unb, .unb, .unb, .unb] ((ta, Lst ((tailOf k).map V.int)) :: (tt, Lst [V.ref a0, V.ref a1, V.ref a2, V.ref a3]) :: (sa, Lst (st.map V.int)) :: (L + 1, Cel (.int N)) :: [(L + 1 + 1, Cel0)]) h15 := by
    match k, hk4 with
    | 0, _ => exact ⟨a0, rfl, I15.pick [4, 0, 5, 6, 7] (by decide) rfl⟩
    | 1, _ => exact ⟨a1, rfl, I15.pick [3, 0, 5, 6, 7] (by decide) rfl⟩
    | 2, _ => exact ⟨a2, rfl, I15.pick [2, 0, 5, 6, 7] (by decide) rfl⟩
    | 3, _ => exact ⟨a3, rfl, I15.pick [1, 0, 5, 6, 7] (by decide) rfl⟩
  refine tList (v := V.ref ta) (I16.has (i := 1) rfl).r (by lia) (by lia) hta fun _ => ?_
  have I16 := I16.pick [0, 2, 3, 4] (by decide) rfl
  refine sR I16 (i := 5) rfl fun h17 t17 I17 => ?_
  simp only [setAt] at I17
  have htl2 := tailOf_len k
  have hst5 := hok.hi
  -- row
  refine xCons ?_
  refine xAssign ?_
  refine xBin ?_
  refine lR I17 (i := 4) rfl rfl ?_
  refine lR I17 (i := 5) rfl rfl ?_
  refine lAdd I17 (I17.has (i := 1) rfl).r (I17.has (i := 0) rfl).r (fit64 (by simp; lia)) fun ra h18 I18 => ?_
  rw [← List.map_append] at I18
  refine sR I18 (i := 6) rfl fun h19 t19 I19 => ?_
  simp only [setAt] at I19
  -- images
  refine xCons ?_
  refine xAssign ?_
  refine xCall ?_
  refine gload gg I19.glob (n_law_images _) ?_
  refine xDef (ob := fnObj w.params 105) rfl ?_
  refine xArg ?_
  refine lC (I19.has (i := 3) rfl) fun _ => ?_
  refine xArg ?_
  refine lI I19 (i := 2) rfl rfl fun _ => ?_
  refine xArg ?_
  refine lR I19 (i := 6) rfl rfl ?_
  refine xArgs ⟨I19.glob.keep _ _ (gg.X 105 _ (by kernel_rfl)), ?_⟩
  refine law_images_ok gg I19.glob (by lia) hh (hok.row k) (I19.has (i := 0) rfl).r (I19.n5 (i := 0) rfl) (by lia) (by lia) hgb fun h20 t20 g20 ia hgb20 K20 G20 f20 x20 => ?_
  obtain ⟨oi, ei, pi⟩ := x20
  have I20 := I19.push K20 G20 f20 ei pi
  refine sC I20 (i := 5) rfl (fun _ p => p) fun h21 I21 => ?_
  simp only [setAt, V.of] at I21
  -- the first test
  refine xCons ?_
  refine xIf ?_
  refine xOr ?_
  refine xTest ?_
  refine lR I21 (i := 6) rfl rfl ?_
  refine xBin ?_
  refine lR I21 (i := 4) rfl rfl ?_
  refine lR I21 (i := 5) rfl rfl ?_
  refine lAdd I21 (I21.has (i := 3) rfl).r (I21.has (i := 2) rfl).r (fit64 (by simp; lia)) fun rb h22 I22 => ?_
  rw [← List.map_append] at I22
  refine lNe (I22.has (i := 2) rfl).r (I22.has (i := 0) rfl).r (by lia) ?_
  refine tBool ?_
  refine br_f (by simp) ?_
  have I22 := I22.tail
  refine xOr ?_
  refine xTest ?_
  refine lC (I22.has (i := 5) rfl) fun _ => ?_
  refine xCall ?_
  refine gload gg I22.glob (n_law_due _) ?_
  refine xDef (ob := fnObj w.params 110) rfl ?_
  refine xArg ?_
  refine lC (I22.has (i := 4) rfl) fun _ => ?_
  refine xArg ?_
  refine lI I22 (i := 2) rfl rfl fun _ => ?_
  refine xArg ?_
  refine lR I22 (i := 4) rfl rfl ?_
  refine xArg ?_
  refine lR I22 (i := 5) rfl rfl ?_
  refine xArgs ⟨I22.glob.keep _ _ (gg.X 110 _ (by kernel_rfl)), ?_⟩
  refine law_due_ok gg I22.glob (by lia) hh (by lia) hok.lo (by lia) (by lia) (I22.has (i := 3) rfl).r (I22.has (i := 2) rfl).r (I22.n5 (i := 3) rfl) (I22.n5 (i := 2) rfl) (by lia) (by lia) fun h23 t23 da K23 G23 f23 x23 => ?_
  have I23 := I22.back K23 G23
  rw [← HI N f k st hN4 hN8 hfN hok] at x23
  refine lNe (I23.has (i := 0) rfl).r x23.r (by lia) ?_
  refine tBool ?_
  refine br_f (by simp) ?_
  refine xOr0 ?_
  refine br_f rfl ?_
  refine xNil ?_
  have I23 := I23.pick [0, 4, 5] (by decide) rfl
  -- share, level
  refine xCons ?_
  refine xAssign ?_
  refine xBin ?_
  refine xBin ?_
  refine cInt fun _ _ => ?_
  refine xBin ?_
  refine lI I23 (i := 3) rfl rfl fun _ => ?_
  refine cInt fun _ _ => ?_
  refine iMod hh (by decide) fun _ _ => ?_
  refine iAdd fun _ _ => ?_
  have es : (1 : Int) + ((c7 : Nat) : Int).fmod 4 = ((1 + c7 % 4 : Nat) : Int) := by
    rw [show (4 : Int) = ((4 : Nat) : Int) from rfl, fmodN]; lia
  rw [es]
  refine cInt fun _ _ => ?_
  refine iiDiv hh (Nat.lt_of_lt_of_le (show ((1 + c7 % 4 : Nat) : Int).natAbs < 16 by lia) (by decide)) (by decide) fun _ _ => ?_
  have eq1 : Float64.ofFrac (decide (((1 + c7 % 4 : Nat) : Int) < 0) != decide ((4 : Int) < 0)) ((1 + c7 % 4 : Nat) : Int).natAbs (4 : Int).natAbs = fq (1 + c7 % 4) 4 := fq_div (1 + c7 % 4) 4 (by decide)
  rw [eq1]
  refine sF I23 (i := 7) rfl fun h24 t24 I24 => ?_
  simp only [setAt] at I24
  refine xCons ?_
  refine xAssign ?_
  refine xBin ?_
  refine xBin ?_
  refine cInt fun _ _ => ?_
  refine xBin ?_
  refine xBin ?_
  refine lI I24 (i := 3) rfl rfl fun _ => ?_
  refine cInt fun _ _ => ?_
  refine iDiv (by decide) (noPl (by decide)) fun _ _ => ?_
  refine cInt fun _ _ => ?_
  refine iMod hh (by decide) fun _ _ => ?_
  refine iAdd fun _ _ => ?_
  have el : (1 : Int) + (((c7 : Nat) : Int).fdiv 4).fmod 4 = ((1 + c7 / 4 % 4 : Nat) : Int) := by
    rw [show (4 : Int) = ((4 : Nat) : Int) from rfl, fdivN, fmodN]; lia
  rw [el]
  refine cInt fun _ _ => ?_
  refine iiDiv hh (Nat.lt_of_lt_of_le (show ((1 + c7 / 4 % 4 : Nat) : Int).natAbs < 16 by lia) (by decide)) (by decide) fun _ _ => ?_
  have eq2 : Float64.ofFrac (decide (((1 + c7 / 4 % 4 : Nat) : Int) < 0) != decide ((4 : Int) < 0)) ((1 + c7 / 4 % 4 : Nat) : Int).natAbs (4 : Int).natAbs = fq (1 + c7 / 4 % 4) 4 := fq_div (1 + c7 / 4 % 4) 4 (by decide)
  rw [eq2]
  refine sF I24 (i := 8) rfl fun h25 t25 I25 => ?_
  simp only [setAt] at I25
  -- turns, heads
  refine xCons ?_
  refine xAssign ?_
  refine xList ?_
  refine xArgs ?_
  refine mkList I25 rfl fun tl h26 I26 => ?_
  refine sR I26 (i := 9) rfl fun h27 t27 I27 => ?_
  simp only [setAt] at I27
  refine xCons ?_
  refine xAssign ?_
  refine xList ?_
  refine xArgs ?_
  refine mkList I27 rfl fun hl h28 I28 => ?_
  refine sR I28 (i := 10) rfl fun h29 t29 I29 => ?_
  simp only [setAt] at I29
  have I29 := (I29.imp (i := 2) (P' := LstR ((imagesF N f st (tailOf k)).map .int)) rfl fun o p => p.r)
  simp only [setAt] at I29
  exact next _ _ _ N f k (c7 % 4) (c7 / 4 % 4) st ia tl hl _ _ _ _ _ _ _ hgb20 hN4 hN8 hfN hok (by lia) (by lia) (I29.pick [1, 0, 2, 3, 4] (by decide) rfl)
end
end Mine
end PartMLawS

section PartMHI
open PySem PySem.W PyProof.Rows
set_option autoImplicit false
set_option linter.unusedVariables false
namespace Mine

def zOf (st tail : List Int) (k : Nat) : Int := if k < st.length then st.getD k 0 else lastOf st tail
theorem zOf_told {st tail : List Int} (k : Nat) : (match told st tail k with | some z => z | none => 1) = zOf st tail k := by
  unfold told zOf lastOf
  by_cases q : k < st.length
  · simp [q]
  · by_cases q2 : tail.head? = some 0
    · simp [q, q2]
    · simp [q, q2]
theorem getD_mem {st : List Int} {k : Nat} (h : k < st.length) : st.getD k 0 ∈ st := by
  rw [List.getD_eq_getElem?_getD, List.getElem?_eq_getElem h, Option.getD_some]; exact List.getElem_mem _
theorem zOf_pos {st tail : List Int} (x : StOK st) (k : Nat) : 1 ≤ zOf st tail k := by
  have := x.lo
  unfold zOf lastOf
  split
  · next h => exact (x.mem _ (getD_mem h)).1
  · split
    · exact (x.mem _ (getD_mem (by lia))).1
    · lia
theorem reach_step {N : Int} {st tail : List Int} (hN : 0 ≤ N) (k : Nat) (hr : reachK N st tail k ≤ N) : reachK N st tail (k + 1) = min N (reachK N st tail k + zOf st tail k - 1) := by
  have h := zOf_told (st := st) (tail := tail) k
  rw [reachK]
  cases e : told st tail k with
  | some z => rw [e] at h; simp only at h ⊢; rw [h]
  | none => rw [e] at h; simp only at h ⊢; rw [← h]; lia
theorem reach_bd {N : Int} {st tail : List Int} (x : StOK st) (hN : 0 ≤ N) : ∀ k, 0 ≤ reachK N st tail k ∧ reachK N st tail k ≤ N
  | 0 => ⟨Int.le_refl 0, hN⟩
  | k + 1 => by
    have ih := reach_bd (tail := tail) x hN k
    rw [reach_step hN k ih.2]
    have := zOf_pos (tail := tail) x k
    lia
theorem reach_mono1 {N : Int} {st tail : List Int} (x : StOK st) (hN : 0 ≤ N) (k : Nat) : reachK N st tail k ≤ reachK N st tail (k + 1) := by
  have ih := reach_bd (tail := tail) x hN k
  rw [reach_step hN k ih.2]
  have := zOf_pos (tail := tail) x k
  lia
theorem reach_mono {N : Int} {st tail : List Int} (x : StOK st) (hN : 0 ≤ N) {i : Nat} : ∀ {j : Nat}, i ≤ j → reachK N st tail i ≤ reachK N st tail j
  | 0, h => by rw [Nat.le_zero.mp h]; exact Int.le_refl _
  | j + 1, h => by
    by_cases q : i = j + 1
    · rw [q]; exact Int.le_refl _
    · exact Int.le_trans (reach_mono x hN (j := j) (by lia)) (reach_mono1 x hN j)
def zSum (st tail : List Int) : Nat → Int
  | 0 => 0
  | k + 1 => zSum st tail k + zOf st tail k
theorem reach_sum {N : Int} {st tail : List Int} (x : StOK st) (hN : 0 ≤ N) : ∀ k, reachK N st tail k = min N (zSum st tail k - k)
  | 0 => by show (0 : Int) = min N (0 - 0); lia
  | k + 1 => by
    have ih := reach_sum (tail := tail) x hN k
    have bd := reach_bd (tail := tail) x hN k
    rw [reach_step hN k bd.2, ih, zSum]
    have := zOf_pos (tail := tail) x k
    lia
theorem take_zSum {n : Nat} {st tail : List Int} : ∀ k, k ≤ st.length + n → ((st ++ List.replicate n (lastOf st tail)).take k).sum = zSum st tail k
  | 0, _ => by simp [zSum]
  | k + 1, h => by
    have hlt : k < (st ++ List.replicate n (lastOf st tail)).length := by simp; lia
    rw [List.take_add_one, List.getElem?_eq_getElem hlt]
    simp only [Option.toList_some, List.sum_append, List.sum_cons, List.sum_nil, Int.add_zero]
    rw [take_zSum k (by lia), zSum]
    congr 1
    unfold zOf
    rw [List.getElem_append]
    split
    · next q => rw [List.getD_eq_getElem?_getD, List.getElem?_eq_getElem q, Option.getD_some]
    · simp
theorem HI_ok (N f k : Nat) (st : List Int) (h4 : 4 ≤ N) (h8 : N ≤ 8) (hf : f < N) (x : StOK st) : imagesF N f st (tailOf k) = dueF N f st (tailOf k) := by
  unfold imagesF dueF
  rw [Int.toNat_natCast]
  refine List.map_congr_left fun i hi => ?_
  have hi := List.mem_range.mp hi
  rw [reach_sum x (by lia)]
  congr 2
  unfold sizesOf
  rw [List.take_take, Int.toNat_natCast, Nat.min_eq_left (by lia), take_zSum i (by lia)]

/-- the images as counts -/
def imOf (N f : Nat) (st tail : List Int) : List Nat := (imagesF N f st tail).map Int.toNat
theorem imOf_pos {N f : Nat} {st tail : List Int} (x : StOK st) : ∀ k ∈ imagesF N f st tail, 0 ≤ k := fun k hk => by
  unfold imagesF at hk
  obtain ⟨i, _, rfl⟩ := List.mem_map.mp hk
  have := reach_bd (N := N) (tail := tail) x (by lia) i
  lia
theorem imOf_iv {N f : Nat} {st tail : List Int} (x : StOK st) : (imagesF N f st tail).map V.int = iv (imOf N f st tail) := by
  rw [iv_int]; unfold imOf; rw [nats_of (imOf_pos x)]
theorem imOf_get {N f : Nat} {st tail : List Int} (x : StOK st) {i : Nat} (h : i < N) : (imOf N f st tail).getD i 0 = f + (reachK N st tail i).toNat := by
  unfold imOf imagesF
  rw [List.map_map, List.getD_eq_getElem?_getD, List.getElem?_map, Int.toNat_natCast, List.getElem?_range h]
  have := reach_bd (N := N) (tail := tail) x (by lia) i
  show ((f : Int) + reachK N st tail i).toNat = _
  lia
theorem imOf_len {N f : Nat} {st tail : List Int} : (imOf N f st tail).length = N := by simp [imOf, imagesF]
theorem imOf_deg {N f : Nat} {st tail : List Int} (x : StOK st) (h4 : 4 ≤ N) (h8 : N ≤ 8) (hf : f < N) : Deg N (imOf N f st tail) where
  len := imOf_len
  h4 := h4
  h8 := h8
  lt := fun y hy => by
    obtain ⟨i, hi, e⟩ := List.mem_iff_getElem.mp hy
    have hiN : i < N := by rw [imOf_len] at hi; exact hi
    have := imOf_get (f := f) (tail := tail) x hiN
    rw [List.getD_eq_getElem?_getD, List.getElem?_eq_getElem hi, Option.getD_some, e] at this
    have bd := reach_bd (N := N) (tail := tail) x (by lia) i
    lia
  mono := fun i j hij hj => by
    rw [imOf_get x (by lia), imOf_get x hj]
    have := reach_mono (N := N) (tail := tail) x (by lia) hij
    lia
  last := by
    rw [imOf_get x (by lia), imOf_get x (by lia)]
    have bd := reach_bd (N := N) (tail := tail) x (by lia) (N - 1)
    lia
end Mine
end PartMHI

section PartMPQ
open PySem PySem.W PyProof.Rows
set_option autoImplicit false
set_option linter.unusedVariables false
namespace Mine
def lettersPQ (p q r : Nat) : List Nat := (List.range p).map fun i => (r + (i + 1) * q) / p - (r + i * q) / p
def numsPQ (p q : Nat) : List Nat := (List.range p).map fun r => d2i 1 (lettersPQ p q r).reverse
def upB : List Nat → Bool
  | [] => true
  | [_] => true
  | a :: b :: l => decide (a < b) && upB (b :: l)
theorem upB_ok : ∀ {l : List Nat}, upB l = true → l.Pairwise (· < ·)
  | [], _ => .nil
  | [_], _ => List.pairwise_singleton _ _
  | a :: b :: l, h => by
    simp only [upB, Bool.and_eq_true, decide_eq_true_eq] at h
    have ih := upB_ok h.2
    refine List.pairwise_cons.mpr ⟨fun y hy => ?_, ih⟩
    rcases List.mem_cons.mp hy with e | e
    · rw [e]; exact h.1
    · exact Nat.lt_trans h.1 ((List.pairwise_cons.mp ih).1 y e)
def pqOK (p q : Nat) : Bool :=
  let ns := numsPQ p q
  upB ns && ns.all (fun x => decide (x < 256)) && goodP (setP true (ns.map fun (i : Nat) => (i : Int))) && (ns.sum == q * (2 ^ p - 1)) &&
  (decide (p ≤ 1) || (List.range p).all fun r => (2 * ns.getD r 0 == (r + q) / p * (2 ^ p - 1) + ns.getD ((r + q) % p) 0) && decide (ns.getD ((r + q) % p) 0 < 2 ^ p - 1))
def pqAll : Bool := (List.range 9).all fun p => (List.range (p + 1)).all fun q => decide (p = 0) || !(Nat.gcd p q == 1) || pqOK p q
theorem pqAll_ok : pqAll = true := by decide +kernel
theorem pq_ok {p q : Nat} (h0 : 0 < p) (h8 : p ≤ 8) (hq : q ≤ p) (hg : Nat.gcd p q = 1) : pqOK p q = true := by
  have := List.all_eq_true.mp (List.all_eq_true.mp pqAll_ok p (List.mem_range.mpr (by lia))) q (List.mem_range.mpr (by lia))
  simpa [hg, Nat.ne_of_gt h0] using this
end Mine
end PartMPQ

section PartMHyp
open PySem PySem.W PyProof.Rows
set_option autoImplicit false
set_option linter.unusedVariables false
namespace Mine
section
variable {N : Nat} {im ks : List Nat} (D : Deg N im) (hK : KeptAt N im N ks)
include D hK
theorem hyp1 {ways ring rounds : Nat} (hw : 0 < ways) (hc : ks.length = ring * ways) (hs : shiftOf N im ks = rounds * ways) (k x : Nat) (hx : x < N) :
    (if gone N im ring rounds k x < 0 then -gone N im ring rounds k x else gone N im ring rounds k x) < (ring : Int) * (N : Int) := by
  have h := rot_near D hK hx k
  rw [hc, hs] at h
  have e : ((it N im k x / N : Nat) : Int) * (N : Int) + ((it N im k x % N : Nat) : Int) = ((it N im k x : Nat) : Int) := by
    have := Nat.mod_add_div (it N im k x) N
    rw [Nat.mul_comm] at this
    rw [← Int.natCast_mul]; lia
  have eg : gone N im ring rounds k x = (ring : Int) * (((it N im k x : Nat) : Int) - (x : Int)) - (k : Int) * (rounds : Int) * (N : Int) := by
    unfold gone; rw [e]
  have e1 : ((ring * ways : Nat) : Int) * (((it N im k x : Nat) : Int) - (x : Int)) - (k : Int) * ((rounds * ways : Nat) : Int) * (N : Int) = (ways : Int) * gone N im ring rounds k x := by
    rw [eg, Int.natCast_mul, Int.natCast_mul]
    generalize ((it N im k x : Nat) : Int) - (x : Int) = y
    rw [Int.mul_sub]
    congr 1
    · rw [Int.mul_comm (ring : Int) (ways : Int), Int.mul_assoc]
    · rw [Int.mul_comm (rounds : Int) (ways : Int), ← Int.mul_assoc, Int.mul_comm (k : Int) (ways : Int), Int.mul_assoc, Int.mul_assoc, Int.mul_assoc]
  have e2 : ((ring * ways : Nat) : Int) * (N : Int) = (ways : Int) * ((ring : Int) * (N : Int)) := by
    rw [Int.natCast_mul, Int.mul_comm (ring : Int) (ways : Int), Int.mul_assoc]
  rw [e1, e2, ← Int.mul_neg] at h
  have hw' : (0 : Int) < (ways : Int) := by lia
  have a1 := Int.lt_of_mul_lt_mul_left h.1 (Int.le_of_lt hw')
  have a2 := Int.lt_of_mul_lt_mul_left h.2 (Int.le_of_lt hw')
  split <;> lia
omit hK in
theorem hyp3 (x y : Nat) (h : x < y) (hy : y < N) : lettersOf N im x (2 * N) = lettersOf N im y (2 * N) ∨ ((ab (lettersOf N im x (2 * N))).cps.toList < (ab (lettersOf N im y (2 * N))).cps.toList ∧ ¬ (ab (lettersOf N im y (2 * N))).cps.toList < (ab (lettersOf N im x (2 * N))).cps.toList) := by
  have W := words_ahead D (fun t => if t = 0 then 97 else 98) (by decide) (2 * N) x y (Nat.le_of_lt h) (by rw [Nat.div_eq_of_lt (by lia), Nat.div_eq_of_lt hy])
  rcases W with e | e
  · left
    have inj : ∀ (l1 l2 : List Nat), (∀ t ∈ l1, t < 2) → (∀ t ∈ l2, t < 2) → l1.map (fun t => if t = 0 then 97 else 98) = l2.map (fun t => if t = 0 then 97 else 98) → l1 = l2 := by
      intro l1
      induction l1 with
      | nil => intro l2 _ _ e; cases l2 with
        | nil => rfl
        | cons b l2 => cases e
      | cons a l1 ih =>
        intro l2 h1 h2 e
        cases l2 with
        | nil => cases e
        | cons b l2 =>
          rw [List.map_cons, List.map_cons] at e
          have ha := h1 a (.head _)
          have hb := h2 b (.head _)
          have e1 := (List.cons.inj e).1
          rw [ih l2 (fun t ht => h1 t (.tail _ ht)) (fun t ht => h2 t (.tail _ ht)) (List.cons.inj e).2]
          congr 1
          by_cases qa : a = 0 <;> by_cases qb : b = 0 <;> simp [qa, qb] at e1 <;> lia
    exact inj _ _ (letters_lt D) (letters_lt D) e
  · right
    exact e
/-- the numbers of a wheel -/
theorem nums_pq {ways ring rounds : Nat} (hw : 0 < ways) (hc : ks.length = ring * ways) (hs : shiftOf N im ks = rounds * ways) : numsOf N im ks ways ring = numsPQ ring rounds := by
  unfold numsOf numsPQ
  refine List.map_congr_left fun r hr => ?_
  unfold numOf lettersPQ
  rw [letters_pq D hK hw hc hs (List.mem_range.mp hr)]
theorem turn_pq {ways ring rounds : Nat} (hw : 0 < ways) (hr0 : 0 < ring) (hc : ks.length = ring * ways) (hs : shiftOf N im ks = rounds * ways) {r : Nat} (hr : r < ring) : turnOf N im (ks.getD (r * ways) 0) = (r + rounds) / ring := by
  have h := letters_pq D hK hw hc hs hr
  have e : ((lettersOf N im (ks.getD (r * ways) 0) ring))[0]? = some (turnOf N im (ks.getD (r * ways) 0)) := by
    unfold lettersOf; rw [List.getElem?_map, List.getElem?_range hr0]; rfl
  rw [h, List.getElem?_map, List.getElem?_range hr0] at e
  have e := Option.some.inj e
  rw [← e]
  simp only [Nat.zero_add, Nat.one_mul, Nat.zero_mul, Nat.add_zero]
  rw [Nat.div_eq_of_lt hr, Nat.sub_zero]
end
end Mine
end PartMHyp

section PartMLawT
open PySem PySem.W PyProof.Rows
set_option autoImplicit false
set_option linter.unusedVariables false
namespace Mine
def renOK (names : List Str) (vals : List V) : List Str → List V → List (Option Nat) → Prop
  | x :: n2, d :: v2, some j :: is => nth names j = some x ∧ nth vals j = some d ∧ renOK names vals n2 v2 is
  | _ :: n2, d :: v2, none :: is => d = .unb ∧ renOK names vals n2 v2 is
  | [], _, _ => True
  | _, _, _ => False
theorem renOK_at {names : List Str} {vals : List V} : ∀ {n2 : List Str} {v2 : List V} {is : List (Option Nat)}, renOK names vals n2 v2 is → ∀ {i : Nat} {x : Str} {d : V}, nth n2 i = some x → nth v2 i = some d → d ≠ .unb → ∃ j, nth names j = some x ∧ nth vals j = some d
  | [], _, _, _, i, _, _, h1, _, _ => by cases i <;> cases h1
  | _ :: _, [], is, r, _, _, _, _, _, _ => by cases is <;> exact r.elim
  | _ :: _, _ :: _, [], r, _, _, _, _, _, _ => r.elim
  | y :: n2, e :: v2, some j :: is, r, 0, _, _, h1, h2, _ => by cases h1; cases h2; exact ⟨j, r.1, r.2.1⟩
  | y :: n2, e :: v2, some j :: is, r, i + 1, _, _, h1, h2, h3 => renOK_at r.2.2 (i := i) h1 h2 h3
  | y :: n2, e :: v2, none :: is, r, 0, _, _, h1, h2, h3 => by cases h1; cases h2; exact absurd r.1 h3
  | y :: n2, e :: v2, none :: is, r, i + 1, _, _, h1, h2, h3 => renOK_at r.2 (i := i) h1 h2 h3
theorem Sta.rename {G B h : Heap} {env : Env} {names n2 : List Str} {vals v2 : List V} {led : Led} (I : Sta G B env names vals led h) (is : List (Option Nat)) (r : renOK names vals n2 v2 is) (hd : n2.Nodup) (hk : ∀ x ∈ n2, env.kindOf x = some .local) : Sta G B env n2 v2 led h := by
  refine { I with nod := hd, kinds := hk, loc := ?_ }
  obtain ⟨m, n, hm⟩ := I.loc
  refine ⟨m, n, fun i x d h1 h2 h3 => ?_⟩
  obtain ⟨j, e1, e2⟩ := renOK_at r h1 h2 h3
  exact hm j x d e1 e2 h3

section
variable {prog : Program} {w : World} {A : Around} {G B h : Heap} {g : Array GenState} {d : Drawn} {t : Nat} {o : OsState} {mg mb : Str → Option Value} {L : Addr}
theorem lawBody (gg : GG w G mg mb) (hh : A.handled = none) (hu : A.units + 300 < cLine) (hroom : A.depth + 200 < recursionLimit) {a : Addr} {ns : List Int} (hs : Has B a (LstR (ns.map .int))) (n5 : a ≠ 51 ∧ a ≠ 58) (hlen : ns.length ≤ 63) (hgb : AllBare g)
    (I : Sta G B (cenvC w 115 L) nS [.ref a, .unb, .unb, .unb, .unb, .unb, .unb, .unb, .unb, .unb, .unb] [(L + 1, Cel0), (L + 1 + 1, Cel0)] h) {Q : Flow → Shared → Prop}
    (done : ∀ h' g' t', AllBare g' → Kept B h' → Glob G h' → Q (.ret (.bool true)) ⟨h', g', d, t' + 1, o⟩) :
    W prog w A (execs (lawB w) (cenvC w 115 L)) Q ⟨h, g, d, t + 1, o⟩ := by
  refine segS gg hh hu hroom hs n5 hlen hgb HI_ok I ?_
  intro h1 g1 t1 N f k sh lv st ia tl hl v0 v1 v2 v3 v4 v5 v6 hgb1 h4 h8 hf hst hsh hlv I1
  have D := imOf_deg (tail := tailOf k) hst h4 h8 hf
  rw [imOf_iv hst] at I1
  generalize imOf N f st (tailOf k) = im at D I1
  have I1 := I1.rename (n2 := nA) (v2 := [.unb, .float (fq (1 + sh) 4), .float (fq (1 + lv) 4), .ref tl, .ref hl, .unb, .unb, .unb, .unb, .unb, .unb, .unb, .unb])
    [none, some 7, some 8, some 9, some 10, none, none, none, none, none, none, none, none]
    ⟨rfl, rfl, rfl, rfl, rfl, rfl, rfl, rfl, rfl, rfl, rfl, rfl, rfl, rfl, rfl, rfl, rfl, trivial⟩ (by decide +kernel) (lawKinds w L (by decide +kernel))
  refine segA gg hh hu hroom D (fun p hp => fOK_all h4 h8 hp hsh hlv) I1 ?_
  intro h2 t2 vs I2 e3 e4
  have I2 := I2.rename (n2 := nB) (v2 := [.ref tl, .ref hl, .unb, .unb]) [some 3, some 4, none, none] ⟨rfl, e3, rfl, e4, rfl, rfl, trivial⟩ (by decide +kernel) (lawKinds w L (by decide +kernel))
  refine segB gg hh hroom D I2 ?_
  intro h3 t3 ks kl v3 hK I3
  have I3 := I3.rename (n2 := nC) (v2 := [.ref tl, .ref hl, .ref kl, .unb, .unb, .unb, .unb, .unb, .unb, .unb]) [some 0, some 1, some 2, none, none, none, none, none, none, none] ⟨rfl, rfl, rfl, rfl, rfl, rfl, rfl, rfl, rfl, rfl, rfl, rfl, rfl, trivial⟩ (by decide +kernel) (lawKinds w L (by decide +kernel))
  refine segC gg hh hroom D hK I3 ?_
  intro h4' t4 wl v6' I4
  have klt := kept_lt D.pos hK
  have kl8 : ks.length ≤ 8 := len8 hK.1 fun y hy => Nat.lt_of_lt_of_le (klt y hy) h8
  have k0 := kept_ne D hK
  obtain ⟨ways, ew⟩ : ∃ ways, Nat.gcd ks.length (shiftOf N im ks) = ways := ⟨_, rfl⟩
  have w0 : 0 < ways := by rw [← ew]; exact Nat.gcd_pos_of_pos_left _ k0
  have w8 : ways ≤ 8 := by rw [← ew]; exact Nat.le_trans (Nat.gcd_le_left _ k0) kl8
  rw [ew] at I4
  obtain ⟨ring, er⟩ : ∃ ring, ks.length / ways = ring := ⟨_, rfl⟩
  obtain ⟨rounds, eo⟩ : ∃ rounds, shiftOf N im ks / ways = rounds := ⟨_, rfl⟩
  have hc : ks.length = ring * ways := by rw [← er, Nat.div_mul_cancel]; rw [← ew]; exact Nat.gcd_dvd_left _ _
  have hsft : shiftOf N im ks = rounds * ways := by rw [← eo, Nat.div_mul_cancel]; rw [← ew]; exact Nat.gcd_dvd_right _ _
  have hg1 : Nat.gcd ring rounds = 1 := by
    rw [← er, ← eo, ← ew]; exact Nat.gcd_div_gcd_div_gcd_of_pos_left k0
  rw [er, eo] at I4
  have r0 : 0 < ring := by
    rcases Nat.eq_zero_or_pos ring with e | e
    · rw [e, Nat.zero_mul] at hc; lia
    · exact e
  have r8 : ring ≤ 8 := by rw [← er]; exact Nat.le_trans (Nat.div_le_self _ _) kl8
  have e0N : ks.getD 0 0 < N := by
    rw [List.getD_eq_getElem?_getD, List.getElem?_eq_getElem k0, Option.getD_some]
    exact klt _ (List.getElem_mem _)
  have hqr : rounds ≤ ring := rounds_le D hK w0 r0 hc hsft (laps_le D e0N)
  have I4 := I4.rename (n2 := nD) (v2 := [.ref tl, .ref hl, .ref kl, .int ways, .int ring, .int rounds, .ref wl, .unb, .unb, .unb, .unb, .unb, .unb, .unb])
    [some 0, some 1, some 2, some 5, some 7, some 8, some 9, none, none, none, none, none, none, none] ⟨rfl, rfl, rfl, rfl, rfl, rfl, rfl, rfl, rfl, rfl, rfl, rfl, rfl, rfl, rfl, rfl, rfl, rfl, rfl, rfl, rfl, trivial⟩ (by decide +kernel) (lawKinds w L (by decide +kernel))
  refine segD gg hh hroom D hK w0 r0 r8 (by lia) w8 (hyp1 D hK w0 hc hsft) (rot_laps D hK w0 hc hsft) I4 ?_
  intro h5 t5 v7 v8 v9 v10 v11 v12 v13 I5
  have I5 := I5.rename (n2 := nE) (v2 := [.ref tl, .ref kl, .int ways, .int ring, .int rounds, .ref wl, .unb, .unb, .unb]) [some 0, some 2, some 3, some 4, some 5, some 6, none, none, none]
    ⟨rfl, rfl, rfl, rfl, rfl, rfl, rfl, rfl, rfl, rfl, rfl, rfl, rfl, rfl, rfl, trivial⟩ (by decide +kernel) (lawKinds w L (by decide +kernel))
  refine segE gg hh hroom D (hyp3 D) I5 ?_
  intro h6 t6 u6 u7 u8 I6
  have I6 := I6.rename (n2 := nF) (v2 := [.ref tl, .ref kl, .int ways, .int ring, .int rounds, .ref wl, .unb, .unb, .unb, .unb]) [some 0, some 1, some 2, some 3, some 4, some 5, none, none, none, none]
    ⟨rfl, rfl, rfl, rfl, rfl, rfl, rfl, rfl, rfl, rfl, rfl, rfl, rfl, rfl, rfl, rfl, trivial⟩ (by decide +kernel) (lawKinds w L (by decide +kernel))
  refine segF gg hh hroom D hK w0 r0 r8 w8 hc I6 ?_
  intro h7 t7 nl u7' u8' u9' I7
  rw [nums_pq D hK w0 hc hsft] at I7
  have ok := pq_ok r0 r8 hqr hg1
  unfold pqOK at ok
  simp only [Bool.and_eq_true, Bool.or_eq_true, decide_eq_true_eq, beq_iff_eq, List.all_eq_true] at ok
  obtain ⟨⟨⟨⟨k1, k2⟩, k3⟩, k4⟩, k5⟩ := ok
  refine segG gg hh hu hroom D hK w0 r0 r8 (by lia) w8 hc (by simp [numsPQ]) (upB_ok k1) k2 k3 k4 (fun h1r r hr => ?_) I7 ?_
  · rw [turn_pq D hK w0 r0 hc hsft hr]
    rcases k5 with k5 | k5
    · lia
    · exact k5 r (List.mem_range.mpr hr)
  · intro h8' t8 I8
    exact done _ _ _ hgb1 I8.keep I8.glob
end
end Mine
end PartMLawT

section PartMFin
open PySem PySem.W PyProof.Rows
set_option autoImplicit false
set_option linter.unusedVariables false
namespace Mine
section
variable {M : Model} {A : Around} {E : Value → Shared → Prop} {s : Shared}
/-- the frame with one argument is the frame with none, and a store -/
theorem env_one (scope : Scope) (globals : Addr) (n : Str) (v : Value) (qual : Str) (func : Option Addr) (code : Value) (builtins : Addr) :
    newFunctionEnv scope globals [] [(n, v)] qual func code none builtins = (newFunctionEnv scope globals [] [] qual func code none builtins >>= fun env => storeName env n v >>= fun _ => pure env) := by
  simp only [newFunctionEnv, List.forIn_cons, List.forIn_nil, bind_assoc, pure_bind]
/-- one argument bound: a token is spent -/
theorem newEnv1 {scope : Scope} {globals : Addr} {n : Str} {v : Value} {qual : Str} {func : Option Addr} {code : Value} {builtins : Addr} {Q : Env → Shared → Prop}
    (hk : scope.kind = .function) (hl : scope.names.lookup n = some .local)
    (hQ : ∀ env, env = newEnv scope s.heap.objs.size globals (cellsFrom (s.heap.objs.size + 1) scope.names []) qual func code none builtins →
      ∀ s', InCallC s env.locals (fun y => if y = n then some v else none) env.cells (fun _ => none) s' → s.toks + 1 ≤ s'.toks → Q env s') :
    wpAny M A (newFunctionEnv scope globals [] [(n, v)] qual func code none builtins) Q E s := by
  rw [env_one]
  refine wpAny_bind (wpAny_with_toks (Nat.le_refl _) (wpAny_newFunctionEnv_cells hk (fun _ q => nomatch q) fun env he s₁ x hle => ?_))
  have hkf : env.scope.kind = .function := by rw [he]; exact hk
  have hkn : env.kindOf n = some .local := by rw [he]; exact hl
  refine wpAny_bind (wpAny_storeName_local hkn x.toInCall.ns (fun h₁ hn sb => wpAny_pure (hQ env he _ ⟨⟨?_, hn, fun b o e => ?_, x.toInCall.fresh⟩, fun m c q => (x.cell m c q).sameBut sb (Nat.ne_of_gt (x.above m c (mem_of_lookup q))), x.apart, x.above⟩ (Nat.succ_le_succ hle))) (by rw [hkf]; rfl))
  · obtain ⟨h₀, t₀, rfl⟩ := x.toInCall.same
    exact ⟨h₁, _, rfl⟩
  · have hb : b ≠ env.locals := fun q => Nat.lt_irrefl _ (Nat.lt_of_lt_of_le (Heap.lt_size e) (q ▸ x.toInCall.fresh))
    exact (sb.2 b hb).trans (x.toInCall.keep b o e)
end

section
variable {prog : Program} {w : World} {A : Around} {G h : Heap} {g : Array GenState} {d : Drawn} {t : Nat} {o : OsState} {mg mb : Str → Option Value}
theorem enterLaw {a : Addr} {Q : Value → Shared → Prop} (gg : GG w G mg mb) (hg : Glob G h) (hroom : A.depth < recursionLimit)
    (k : ∀ L h1 t1, Sta G h (cenvC w 115 L) nS [.ref a, .unb, .unb, .unb, .unb, .unb, .unb, .unb, .unb, .unb, .unb] [(L + 1, Cel0), (L + 1 + 1, Cel0)] h1 →
      W prog w (A.deeper (cenvC w 115 L)) (execs (lawB w) (cenvC w 115 L)) (fun fl s' => Q (retOf fl) s') ⟨h1, g, d, t1 + 1, o⟩) :
    W prog w A (call (.ref 115) [.ref a]) Q ⟨h, g, d, t, o⟩ := by
  refine .of (wpAny_call ?_)
  have D := d115 w.params
  have ho := hg.keep _ _ (gg.X 115 _ D.at_)
  refine codeAny_call_function (fd := fdOf w.params 115) (body := bodyOf w.params 115) hroom ho rfl D.co D.gen D.body ((codeRec_of gg.X D.code).keeps hg.keep) ?_
  have hbind : bindArgs (fdOf w.params 115) ⟨[.ref a], []⟩ = pure [(Str.ofString "script", .ref a)] := by kernel_rfl
  refine wpAny_of_eq hbind ?_
  rw [D.clos]
  refine newEnv1 D.fn (by kernel_rfl) fun env he s' x hle => ?_
  subst he
  obtain ⟨h₁, tk, rfl, kp⟩ := x.done
  obtain ⟨tk, rfl⟩ := pos_ex (show t + 1 ≤ tk from hle)
  have kp' : ∀ b ob, h.get? b = some ob → h₁.get? b = some ob := kp
  refine ⟨(gg.lim.keeps hg.keep).keeps kp', codeAny_func ?_⟩
  refine wpAny_mono (k h.objs.size h₁ tk ?_).out (fun fl s' q => ?_) fun _ _ q => q.elim
  · refine ⟨hg.keeps kp', hg, none_size h, .of kp', ⟨_, x.toInCall.ns, fun i y dd q1 q2 q3 => ?_⟩, by decide +kernel, lawKinds w _ (by decide +kernel), D.fn, fun p hp => ?_, ?_⟩
    · match i with
      | 0 => cases q1; cases q2; exact ⟨0, by kernel_rfl⟩
      | 1 => cases q2; exact absurd rfl q3
      | 2 => cases q2; exact absurd rfl q3
      | 3 => cases q2; exact absurd rfl q3
      | 4 => cases q2; exact absurd rfl q3
      | 5 => cases q2; exact absurd rfl q3
      | 6 => cases q2; exact absurd rfl q3
      | 7 => cases q2; exact absurd rfl q3
      | 8 => cases q2; exact absurd rfl q3
      | 9 => cases q2; exact absurd rfl q3
      | 10 => cases q2; exact absurd rfl q3
      | j + 11 => cases q2
    · have hcell : ∃ y, (cellsFrom (h.objs.size + 1) (fdOf w.params 115).scope.names []).lookup y = some p.1 ∧ p.2 = Cel0 := by
        simp only [List.mem_cons, List.not_mem_nil, or_false] at hp
        rcases hp with rfl | rfl
        · exact ⟨Str.ofString "size", by kernel_rfl, rfl⟩
        · exact ⟨Str.ofString "images", by kernel_rfl, rfl⟩
      obtain ⟨y, e, e2⟩ := hcell
      obtain ⟨ob, eo, ed⟩ := x.cell y p.1 e
      have hab : h.objs.size < p.1 := x.above y p.1 (mem_of_lookup e)
      refine ⟨?_, Nat.ne_of_gt hab, ob, eo, by rw [e2]; exact ⟨_, ed⟩⟩
      cases qq : h.get? p.1 with
      | none => rfl
      | some o' => exact absurd (Heap.lt_size qq) (Nat.not_lt.mpr (Nat.le_of_lt hab))
    · simp
  · cases fl <;> exact q

theorem law_ok {a : Addr} {ns : List Int} {Q : Value → Shared → Prop} (gg : GG w G mg mb) (hg : Glob G h) (hh : A.handled = none) (hu : A.units + 303 < cLine) (hroom : A.depth + 201 < recursionLimit)
    (hs : Has h a (LstR (ns.map .int))) (n5 : a ≠ 51 ∧ a ≠ 58) (hlen : ns.length ≤ 63) (hgb : AllBare g)
    (done : ∀ h' g' t', AllBare g' → Kept h h' → Glob G h' → Q (.bool true) ⟨h', g', d, t', o⟩) :
    W prog w A (call (.ref 115) [.ref a]) Q ⟨h, g, d, t, o⟩ := by
  refine enterLaw gg hg (by lia) fun L h1 t1 I => ?_
  exact lawBody (A := A.deeper (cenvC w 115 L)) gg hh (by show A.units + 3 + 300 < cLine; lia) (by show A.depth + 1 + 200 < recursionLimit; lia) hs n5 hlen hgb I fun h' g' t' h1 h2 h3 => done _ _ _ h1 h2 h3

/-- the place behind the top's run -/
theorem gg_of {prog : Program} {w : World} {loose : List Str} {mean : ExcName → Option Value} {mg mb : Str → Option Value} {h : Heap} (T : Top prog loose mean mg mb h) (KX : (KK w.params).In h) (hT : TabsAt [(55, 51), (62, 58)] h) (hK : noTabs (KK w.params) = true) :
    GG w (ghostOf h [(55, 51), (62, 58)]) mg mb ∧ Glob (ghostOf h [(55, 51), (62, 58)]) h := by
  have GT := ghost_top hT T
  have GC := ghost_code hT
  refine ⟨⟨ghost_K hT KX hK, GT.g, GT.b, GT.nolimit, GT.builtins, GC.1, GC.2.1, hideAll_none _ (by decide), hideAll_none _ (by decide), GT.bmain⟩, ⟨fun b o e => of_hideAll _ e, ?_, ?_⟩⟩
  · exact ⟨#[], (hT (55, 51) (by decide)).2, trivial, .inl rfl⟩
  · exact ⟨#[], (hT (62, 58) (by decide)).2, trivial, .inl rfl⟩
theorem old_of {G h h' : Heap} (hT : TabsAt [(55, 51), (62, 58)] h) (hk : Kept h h') (hg : Glob G h') : OldK h h' := by
  have g51 : ∃ ps, h'.get? 51 = some (tabObj ps) := let ⟨ps, e, _⟩ := hg.t51; ⟨ps, e⟩
  have g58 : ∃ ps, h'.get? 58 = some (tabObj ps) := let ⟨ps, e, _⟩ := hg.t58; ⟨ps, e⟩
  have key : ∀ q ∈ [((55 : Addr), (51 : Addr)), (62, 58)], ∀ o, h.get? q.2 = some o → (∃ ps, h'.get? q.2 = some (tabObj ps)) → asItWas h h' q.2 o := fun q hq o e ⟨ps, hP⟩ => by
    have e2 := (hT q hq).2
    rw [e] at e2
    cases e2
    exact .inr (.inl ⟨((hT q hq).1.tab (hT q hq).2).isCodeTable, rfl, #[], ps, rfl, by rw [Array.empty_append]; exact hP⟩)
  refine ⟨fun b o e => ?_, fun b o e => ?_⟩
  · by_cases q1 : b = 51
    · subst q1; exact key (55, 51) (by decide) o e g51
    · by_cases q2 : b = 58
      · subst q2; exact key (62, 58) (by decide) o e g58
      · exact .inl (hk b o e q1 q2)
  · by_cases q1 : b = 51
    · subst q1; obtain ⟨ps, hP⟩ := g51; exact ⟨_, hP⟩
    · by_cases q2 : b = 58
      · subst q2; obtain ⟨ps, hP⟩ := g58; exact ⟨_, hP⟩
      · exact ⟨o, hk b o e q1 q2⟩
end
end Mine
end PartMFin

section PartMEnd
open PySem PySem.W PyProof.Rows
namespace Mine
theorem lstR_of : ∀ {vs : List Value} {ns : List Int}, IntsAre vs ns → Vals vs (ns.map V.int)
  | _, _, .nil => .nil
  | _, _, .cons n t h => .cons (.int n) t (lstR_of h)
theorem noTabsK (P : Params) : noTabs (KK P) = true := by kernel_rfl
theorem fin0 : PySem.Challenge.rw_rl0077_01.Holds := hd (by
  k_fill
  intro w s₀ s₁ mg mb G Y fa o pm cd doc dV kV ho hdt hcd hD hmg hg args vals as hpre hlay hrd hwl hlo
  have KX := km_in_of Y
  km_tabs Y
  have X := (Ground.X G).1
  have V := (Ground.X G).2
  refine Ground.open G ?_
  intro T B D TE TW
  try (refine guard_noD D (by decide +kernel) ?_; clear D)
  km_lay T hmg ho hdt cd
  wrow_args hpre hlay hrd hwl hlo
  clear hD hcd hdt ho B TE TW X V Y
  rename_i ns hs hlay0 hL1 hr1 hl2 as1 as2 la vs as3 hL ra w1 r0 hI hr hlen hc2
  have e115 : fa = 115 := by
    have := mg_of KX T.g (n_law _)
    rw [show (Str.ofString "law") = (Str.ofString "law") from rfl] at this
    have hmg' : mg (Str.ofString "law") = some (.ref fa) := hmg
    rw [hmg'] at this
    cases this
    rfl
  subst e115
  obtain ⟨gg, gl⟩ := gg_of T KX hT9 (noTabsK _)
  obtain ⟨ol, eo, ec, nl, ed⟩ := hL
  have n5 : la ≠ 51 ∧ la ≠ 58 := by
    constructor
    · rintro rfl
      rw [hT8 51 (by decide)] at eo
      cases eo; cases ec
    · rintro rfl
      rw [hT8 58 (by decide)] at eo
      cases eo; cases ec
  have hlen' : ns.length ≤ 63 := by omega
  have main := law_ok (prog := PySem.Challenge.rw_rl0077_01.row.prog) (A := callerA) (d := s₁.drawn) (t := s₁.toks) (o := s₁.os) (g := s₁.gens) (h := s₁.heap) (a := la) (ns := ns)
    (Q := fun v s' => GoodWG PySem.Challenge.rw_rl0077_01.row.claim (classAt s₀.heap) (ExcName.means s₀.heap) [ofPy (PyData.list (List.map PyData.int ns))] s₁ (Except.ok (Flow.ret v)) s')
    gg gl rfl (by decide) (by decide) ⟨ol, eo, ec, _, _, ed, lstR_of hI⟩ n5 hlen' (.of_eq hg) fun h' g' t' hb hk hgl => ?_
  · exact main.any
  · refine ⟨.inl ⟨.bool true, .bool true, [], rfl, fun cls => ?_, .bool true, ?_, fun _ => ⟨List.nodup_nil, fun a ha => nomatch ha⟩⟩, old_of hT9 hk hgl, rfl, hb⟩
    · rfl
    · exact postW_of (by wrow_shape) (by wtm_val) (by str_meet; first | done | w_fin))
end Mine
end PartMEnd

theorem PySem.Challenge.cw_rl0077_01_holds : PySem.Challenge.rw_rl0077_01.Holds :=
  Mine.fin0
