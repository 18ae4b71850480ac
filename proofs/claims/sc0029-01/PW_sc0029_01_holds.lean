import PyProof.Rows.All
import Wide.All
import OpenK.AllK
import Wide.FinOn
import Lean
import PySem.Challenge.RW_sc0029_01
set_option Elab.async false
set_option linter.unusedVariables false

namespace Mine
open Classical

def rv (row : List Int) (j : Nat) : Int := row[j]?.getD 0
theorem rv_get {row : List Int} {j : Nat} (h : j < row.length) : row[j]? = some (rv row j) := by simp [rv, h]

noncomputable def gr (p : Nat → Prop) : Nat → Nat
  | 0 => 0
  | k + 1 => if p k then k else gr p k
theorem gr_lt {p : Nat → Prop} : ∀ {k : Nat}, 0 < k → gr p k < k
  | k + 1, _ => by
    unfold gr
    split
    · omega
    · cases k with
      | zero => simp [gr]
      | succ k => have := gr_lt (p := p) (k := k + 1) (by omega); omega
theorem gr_spec {p : Nat → Prop} (h0 : p 0) : ∀ k : Nat, p (gr p k)
  | 0 => h0
  | k + 1 => by
    unfold gr
    split
    · assumption
    · exact gr_spec h0 k
theorem gr_max {p : Nat → Prop} {j : Nat} (hp : p j) : ∀ {k : Nat}, j < k → j ≤ gr p k
  | k + 1, h => by
    unfold gr
    split
    · omega
    · rename_i hn
      have : j ≠ k := fun e => hn (e ▸ hp)
      exact gr_max hp (by omega)
theorem gr_eq {p : Nat → Prop} {j k : Nat} (hp : p j) (hj : j < k) (hm : ∀ i, j < i → i < k → ¬ p i) (h0 : p 0) : gr p k = j := by
  have h1 := gr_max hp hj
  have h2 := gr_lt (p := p) (k := k) (by omega)
  have h3 := gr_spec h0 k
  rcases Nat.lt_or_ge j (gr p k) with h | h
  · exact absurd h3 (hm _ h h2)
  · omega
theorem gr_step {p : Nat → Prop} (k : Nat) : gr p (k + 1) = if p k then k else gr p k := rfl

section
variable (r : List Int)
def Occ (c p : Nat) : Prop := p + c ≤ r.length ∧ ∀ j, j < c → r[p + j]? = r[j]?
def Bd (k m : Nat) : Prop := k ≤ m ∧ Occ r k (m - k)
def Cov (c m : Nat) : Prop := ∀ q, q < m → ∃ p, p ≤ q ∧ q < p + c ∧ p + c ≤ m ∧ Occ r c p
noncomputable def fl (m : Nat) : Nat := gr (fun k => Bd r k m) m
end

section
variable {r : List Int} {a b c i k m n p q s : Nat}
theorem bd_zero (h : m ≤ r.length) : Bd r 0 m := ⟨Nat.zero_le _, by omega, fun j hj => by omega⟩
theorem bd_self (h : m ≤ r.length) : Bd r m m := ⟨Nat.le_refl _, by omega, fun j hj => by rw [Nat.sub_self, Nat.zero_add]⟩
theorem bd_len (h : Bd r k m) : m ≤ r.length := by have := h.2.1; have := h.1; omega
theorem bd_succ (hi : m < r.length) (hb : b ≤ m) : Bd r (b + 1) (m + 1) ↔ Bd r b m ∧ r[m]? = r[b]? := by
  have e : m + 1 - (b + 1) = m - b := by omega
  constructor
  · rintro ⟨h1, h2, h3⟩
    rw [e] at h2 h3
    refine ⟨⟨hb, by omega, fun j hj => h3 j (by omega)⟩, ?_⟩
    have := h3 b (by omega)
    rwa [show m - b + b = m by omega] at this
  · rintro ⟨⟨h1, h2, h3⟩, h4⟩
    refine ⟨by omega, by omega, fun j hj => ?_⟩
    rw [e]
    rcases Nat.lt_or_ge j b with h | h
    · exact h3 j h
    · obtain rfl : j = b := by omega
      rw [show m - j + j = m by omega]; exact h4
theorem bd_trans (h1 : Bd r a b) (h2 : Bd r b c) : Bd r a c := by
  obtain ⟨x1, x2, x3⟩ := h1
  obtain ⟨y1, y2, y3⟩ := h2
  refine ⟨by omega, by omega, fun j hj => ?_⟩
  have e1 := y3 (b - a + j) (by omega)
  rw [show c - b + (b - a + j) = c - a + j by omega] at e1
  rw [e1]
  exact x3 j hj
theorem bd_sub (h1 : Bd r a c) (h2 : Bd r b c) (hab : a ≤ b) : Bd r a b := by
  obtain ⟨x1, x2, x3⟩ := h1
  obtain ⟨y1, y2, y3⟩ := h2
  refine ⟨hab, by omega, fun j hj => ?_⟩
  have e1 := y3 (b - a + j) (by omega)
  rw [show c - b + (b - a + j) = c - a + j by omega] at e1
  rw [← e1]
  exact x3 j hj

theorem fl_lt (h : 0 < m) : fl r m < m := gr_lt h
theorem fl_bd (h : m ≤ r.length) : Bd r (fl r m) m := gr_spec (p := fun k => Bd r k m) (bd_zero h) m
theorem fl_max (h : Bd r k m) (hk : k < m) : k ≤ fl r m := gr_max (p := fun k => Bd r k m) h hk
theorem fl_one : fl r 1 = 0 := by have := fl_lt (r := r) (m := 1) (by omega); omega

/-- what the inner loop keeps: idx is a border, and no longer one goes on -/
def Kp (r : List Int) (i idx : Nat) : Prop := idx < i ∧ Bd r idx i ∧ ∀ b, idx < b → b < i → Bd r b i → r[i]? ≠ r[b]?
theorem kp_start (h0 : 0 < i) (hi : i < r.length) : Kp r i (fl r i) := ⟨fl_lt h0, fl_bd (by omega), fun b h1 h2 h3 => by have := fl_max h3 h2; omega⟩
theorem kp_next (hi : i < r.length) (h : Kp r i k) (h0 : 0 < k) (hne : r[i]? ≠ r[k]?) : Kp r i (fl r k) := by
  obtain ⟨h1, h2, h3⟩ := h
  have l := fl_lt (r := r) h0
  refine ⟨by omega, bd_trans (fl_bd (by omega)) h2, fun b k1 k2 k3 => ?_⟩
  rcases Nat.lt_trichotomy b k with q | q | q
  · have := fl_max (bd_sub k3 h2 (by omega)) q; omega
  · subst q; exact hne
  · exact h3 b q k2 k3
theorem kp_zero (hi : i < r.length) (h : Kp r i 0) (hne : r[i]? ≠ r[0]?) : fl r (i + 1) = 0 := by
  refine gr_eq (bd_zero (by omega)) (by omega) (fun b h1 h2 h3 => ?_) (bd_zero (by omega))
  obtain ⟨c, rfl⟩ : ∃ c, b = c + 1 := ⟨b - 1, by omega⟩
  obtain ⟨k1, k2⟩ := (bd_succ hi (by omega)).mp h3
  rcases Nat.eq_zero_or_pos c with q | q
  · subst q; exact hne k2
  · exact h.2.2 c q (by omega) k1 k2
theorem kp_hit (hi : i < r.length) (h : Kp r i k) (he : r[i]? = r[k]?) : fl r (i + 1) = k + 1 := by
  have l := h.1
  refine gr_eq ((bd_succ hi (by omega)).mpr ⟨h.2.1, he⟩) (by omega) (fun b h1 h2 h3 => ?_) (bd_zero (by omega))
  obtain ⟨c, rfl⟩ : ∃ c, b = c + 1 := ⟨b - 1, by omega⟩
  obtain ⟨k1, k2⟩ := (bd_succ hi (by omega)).mp h3
  exact h.2.2 c (by omega) (by omega) k1 k2
/-- the table, its first k + 1 places filled -/
noncomputable def tb (r : List Int) (k : Nat) : List Int := (List.range r.length).map fun j => if j < k + 1 then (fl r (j + 1) : Int) else 0
noncomputable def tbl (r : List Int) : List Int := (List.range r.length).map fun j => (fl r (j + 1) : Int)
theorem tb_length : (tb r k).length = r.length := by simp [tb]
theorem tbl_length : (tbl r).length = r.length := by simp [tbl]
theorem tb_zero : tb r 0 = List.replicate r.length 0 := by
  apply List.ext_getElem (by simp [tb])
  intro j h1 h2
  simp only [tb, List.getElem_map, List.getElem_range, List.getElem_replicate]
  split
  · obtain rfl : j = 0 := by omega
    rw [fl_one]; rfl
  · rfl
theorem tb_get (h : i < r.length) (hk : i ≤ k) : (tb r k)[i]? = some (fl r (i + 1) : Int) := by
  simp [tb, h, show i < k + 1 by omega]
theorem tb_set (h : k + 1 < r.length) : (tb r k).set (k + 1) (fl r (k + 1 + 1) : Int) = tb r (k + 1) := by
  apply List.ext_getElem (by simp [tb])
  intro j h1 h2
  rw [List.getElem_set]
  simp only [tb, List.getElem_map, List.getElem_range]
  by_cases q : k + 1 = j
  · subst q; simp
  · rw [if_neg q]
    by_cases q2 : j < k + 1
    · rw [if_pos q2, if_pos (by omega)]
    · rw [if_neg q2, if_neg (by omega)]
theorem tb_all (h : r.length ≤ k + 1) : tb r k = tbl r := by
  apply List.ext_getElem (by simp [tb, tbl])
  intro j h1 h2
  simp only [tb, tbl, List.getElem_map, List.getElem_range]
  rw [if_pos]
  simp [tb] at h1; omega
theorem tbl_get (h : i < r.length) : (tbl r)[i]? = some (fl r (i + 1) : Int) := by simp [tbl, h]
end
end Mine

namespace Mine
open Classical

/-- how many of ps are at most x -/
def cle (ps : List Nat) (x : Int) : Nat := (ps.filter fun (p : Nat) => decide ((p : Int) ≤ x)).length
theorem cle_le (ps : List Nat) (x : Int) : cle ps x ≤ ps.length := List.length_filter_le _ _
theorem cle_iff {x : Int} : ∀ {ps : List Nat}, ps.Pairwise (· < ·) → ∀ (j p : Nat), ps[j]? = some p → (j < cle ps x ↔ (p : Int) ≤ x)
  | [], _, j, p, h => by simp at h
  | a :: r, hs, j, p, h => by
    rw [List.pairwise_cons] at hs
    have ih := @cle_iff x r hs.2
    unfold cle at ih ⊢
    rw [List.filter_cons]
    by_cases ha : (a : Int) ≤ x
    · simp only [ha, decide_true, if_true, List.length_cons]
      cases j with
      | zero => simp at h; subst h; simp [ha]
      | succ j => simp at h; rw [Nat.add_lt_add_iff_right]; exact ih j p h
    · simp only [ha, decide_false, Bool.false_eq_true, if_false]
      have hz : (r.filter fun (p : Nat) => decide ((p : Int) ≤ x)) = [] := by
        rw [List.filter_eq_nil_iff]
        intro b hb
        have := hs.1 b hb
        simp; omega
      rw [hz]
      simp only [List.length_nil, Nat.not_lt_zero, false_iff]
      cases j with
      | zero => simp at h; subst h; exact ha
      | succ j =>
        simp at h
        have := hs.1 p (List.mem_of_getElem? h)
        omega
theorem sorted_le {ps : List Nat} (hs : ps.Pairwise (· < ·)) {i j p q : Nat} (hi : ps[i]? = some p) (hj : ps[j]? = some q) (h : i ≤ j) : p ≤ q := by
  rcases Nat.lt_or_ge i j with k | k
  · obtain ⟨h1, rfl⟩ := List.getElem?_eq_some_iff.mp hi
    obtain ⟨h2, rfl⟩ := List.getElem?_eq_some_iff.mp hj
    have := List.pairwise_iff_getElem.mp hs i j h1 h2 k
    omega
  · obtain rfl : i = j := by omega
    rw [hi] at hj; cases hj; exact Nat.le_refl _
theorem covers_step {ps : List Nat} (hs : ps.Pairwise (· < ·)) {here c S : Nat} (hm : here ∈ ps) (hS : here ≤ S) :
    ∃ p, 0 < min (cle ps S) (cle ps ((here + c : Nat) : Int)) ∧ ps[min (cle ps S) (cle ps ((here + c : Nat) : Int)) - 1]? = some p ∧ p ∈ ps ∧ here ≤ p ∧ p ≤ S ∧ p ≤ here + c ∧ ∀ q ∈ ps, q ≤ S → q ≤ here + c → q ≤ p := by
  generalize ha : min (cle ps S) (cle ps ((here + c : Nat) : Int)) = a
  have idx : ∀ q ∈ ps, q ≤ S → q ≤ here + c → ∃ j, ps[j]? = some q ∧ j < a := fun q hq h1 h2 => by
    obtain ⟨j, hj⟩ := List.getElem?_of_mem hq
    have e1 := (cle_iff (x := (S : Int)) hs j q hj).mpr (by omega)
    have e2 := (cle_iff (x := ((here + c : Nat) : Int)) hs j q hj).mpr (by omega)
    exact ⟨j, hj, by omega⟩
  obtain ⟨j0, hj0, hl0⟩ := idx here hm hS (by omega)
  have hlen : a ≤ ps.length := by have := cle_le ps (S : Int); omega
  have hlt : a - 1 < ps.length := by omega
  refine ⟨ps[a - 1], by omega, List.getElem?_eq_getElem hlt, List.getElem_mem hlt, sorted_le hs hj0 (List.getElem?_eq_getElem hlt) (by omega), ?_, ?_, fun q hq h1 h2 => ?_⟩
  · have := (cle_iff (x := (S : Int)) hs (a - 1) _ (List.getElem?_eq_getElem hlt)).mp (by omega); omega
  · have := (cle_iff (x := ((here + c : Nat) : Int)) hs (a - 1) _ (List.getElem?_eq_getElem hlt)).mp (by omega); omega
  · obtain ⟨j, hj, hl⟩ := idx q hq h1 h2
    exact sorted_le hs hj (List.getElem?_eq_getElem hlt) (by omega)

section
variable {r : List Int} {c m here p : Nat}
theorem cov_start (hc : c ≤ r.length) : Cov r c c := fun q hq => ⟨0, by omega, by omega, by omega, by omega, fun j hj => by rw [Nat.zero_add]⟩
theorem cov_more (h : Cov r c (here + c)) (h1 : here ≤ p) (h2 : p ≤ here + c) (ho : Occ r c p) : Cov r c (p + c) := fun q hq => by
  rcases Nat.lt_or_ge q (here + c) with k | k
  · obtain ⟨a, b1, b2, b3, b4⟩ := h q k
    exact ⟨a, b1, b2, by omega, b4⟩
  · exact ⟨p, by omega, by omega, by omega, ho⟩
theorem cov_stuck (hlt : here + c < m) (h : ∀ q, Occ r c q → q ≤ m - c → q ≤ here + c → q ≤ here) : ¬ Cov r c m := fun hc => by
  obtain ⟨p, h1, h2, h3, h4⟩ := hc (here + c) hlt
  have := h p h4 (by omega) h1
  omega
end
end Mine

namespace Mine
open Classical

theorem sorted_ext : ∀ {l l' : List Nat}, l.Pairwise (· < ·) → l'.Pairwise (· < ·) → (∀ x, x ∈ l ↔ x ∈ l') → l = l'
  | [], [], _, _, _ => rfl
  | [], b :: r, _, _, h => by have := (h b).mpr (.head _); cases this
  | a :: l, [], _, _, h => by have := (h a).mp (.head _); cases this
  | a :: l, b :: r, h1, h2, h => by
    rw [List.pairwise_cons] at h1 h2
    have hab : a = b := by
      have ha := (h a).mp (.head _)
      have hb := (h b).mpr (.head _)
      rcases List.mem_cons.mp ha with q | q
      · exact q
      rcases List.mem_cons.mp hb with q' | q'
      · exact q'.symm
      have := h2.1 a q
      have := h1.1 b q'
      omega
    subst hab
    congr 1
    refine sorted_ext h1.2 h2.2 fun x => ⟨fun hx => ?_, fun hx => ?_⟩
    · rcases List.mem_cons.mp ((h x).mp (.tail _ hx)) with q | q
      · subst q; have := h1.1 x hx; omega
      · exact q
    · rcases List.mem_cons.mp ((h x).mpr (.tail _ hx)) with q | q
      · subst q; have := h2.1 x hx; omega
      · exact q

/-- the numbers 1 .. m that p takes -/
noncomputable def sel (p : Nat → Prop) (m : Nat) : List Nat := ((List.range m).map (· + 1)).filter fun k => decide (p k)
theorem mem_sel {p : Nat → Prop} {m k : Nat} : k ∈ sel p m ↔ (1 ≤ k ∧ k ≤ m) ∧ p k := by
  unfold sel
  rw [List.mem_filter, List.mem_map]
  constructor
  · rintro ⟨⟨a, ha, rfl⟩, hp⟩
    have := List.mem_range.mp ha
    exact ⟨⟨by omega, by omega⟩, of_decide_eq_true hp⟩
  · rintro ⟨⟨h1, h2⟩, hp⟩
    exact ⟨⟨k - 1, List.mem_range.mpr (by omega), by omega⟩, decide_eq_true hp⟩
theorem sorted_range1 (m : Nat) : ((List.range m).map (· + 1)).Pairwise (· < ·) := by
  rw [List.pairwise_map]
  exact List.Pairwise.imp (fun h => by omega) List.pairwise_lt_range
theorem sorted_sel (p : Nat → Prop) (m : Nat) : (sel p m).Pairwise (· < ·) := (sorted_range1 m).filter _
theorem sorted_snoc {l : List Nat} {m : Nat} (h : l.Pairwise (· < ·)) (hm : ∀ x ∈ l, x < m) : (l ++ [m]).Pairwise (· < ·) := by
  rw [List.pairwise_append]
  exact ⟨h, by simp, fun a ha b hb => by rw [List.mem_singleton.mp hb]; exact hm a ha⟩

section
variable (r : List Int)
noncomputable def bs (m : Nat) : List Nat := sel (fun k => Bd r k m) m
noncomputable def cs (m : Nat) : List Nat := sel (fun c => Cov r c m) m
noncomputable def la (m c : Nat) : Nat := gr (fun m' => Cov r c m') (m + 1)
noncomputable def lal (m : Nat) : List Int := (List.range (r.length + 1)).map fun c => (la r m c : Int)
end

section
variable {r : List Int} {c m k : Nat}
theorem bs_zero : bs r 0 = [] := rfl
theorem cs_zero : cs r 0 = [] := rfl
theorem bs_step (h1 : 1 ≤ m) (hm : m ≤ r.length) : bs r m = bs r (fl r m) ++ [m] := by
  have hl := fl_lt (r := r) (m := m) h1
  refine sorted_ext (sorted_sel _ _) (sorted_snoc (sorted_sel _ _) fun x hx => ?_) fun x => ?_
  · have := (mem_sel.mp hx).1.2; omega
  · unfold bs
    rw [List.mem_append, mem_sel, mem_sel, List.mem_singleton]
    constructor
    · rintro ⟨⟨k1, k2⟩, k3⟩
      rcases Nat.lt_or_ge x m with q | q
      · have hx := fl_max k3 q
        exact .inl ⟨⟨k1, hx⟩, bd_sub k3 (fl_bd hm) hx⟩
      · exact .inr (by omega)
    · rintro (⟨⟨k1, k2⟩, k3⟩ | rfl)
      · exact ⟨⟨k1, by omega⟩, bd_trans k3 (fl_bd hm)⟩
      · exact ⟨⟨h1, Nat.le_refl _⟩, bd_self hm⟩
theorem cov_bd (hm : 1 ≤ m) (hml : m ≤ r.length) (h : Cov r c m) : c ≤ m ∧ Bd r c m := by
  obtain ⟨p, h1, h2, h3, h4⟩ := h (m - 1) (by omega)
  have : p = m - c := by omega
  subst this
  exact ⟨by omega, by omega, h4⟩
theorem cov_pos (hm : 1 ≤ m) (h : Cov r c m) : 1 ≤ c := by
  obtain ⟨p, h1, h2, h3, h4⟩ := h 0 (by omega)
  omega
theorem cov_zero : Cov r c 0 := fun q hq => by omega
theorem cov_step (hm : 1 ≤ m) (hml : m ≤ r.length) (hc : 1 ≤ c) (hcm : c < m) : Cov r c m ↔ (c ≤ fl r m ∧ Cov r c (fl r m)) ∧ m - c ≤ la r (m - 1) c := by
  have hl := fl_lt (r := r) (m := m) hm
  constructor
  · intro h
    obtain ⟨_, hb⟩ := cov_bd hm hml h
    have hcf := fl_max hb hcm
    have hbf : Bd r c (fl r m) := bd_sub hb (fl_bd hml) hcf
    refine ⟨⟨hcf, fun q hq => ?_⟩, ?_⟩
    · obtain ⟨p, h1, h2, h3, h4⟩ := h q (by omega)
      rcases Nat.lt_or_ge (fl r m) (p + c) with k | k
      · exact ⟨fl r m - c, by omega, by omega, by omega, hbf.2⟩
      · exact ⟨p, h1, h2, k, h4⟩
    · obtain ⟨p, h1, h2, h3, h4⟩ := h (m - c - 1) (by omega)
      have hcov : Cov r c (p + c) := fun q hq => by
        obtain ⟨p', a1, a2, a3, a4⟩ := h q (by omega)
        rcases Nat.lt_or_ge (p + c) (p' + c) with k | k
        · exact ⟨p, by omega, by omega, by omega, h4⟩
        · exact ⟨p', a1, a2, k, a4⟩
      have := gr_max (p := fun m' => Cov r c m') hcov (k := m - 1 + 1) (by omega)
      unfold la
      omega
  · rintro ⟨⟨hcf, hcov⟩, hla⟩
    obtain ⟨_, hb⟩ := cov_bd (by omega) (by omega) hcov
    have hbm : Bd r c m := bd_trans hb (fl_bd hml)
    have h1 := gr_spec (p := fun m' => Cov r c m') cov_zero (m - 1 + 1)
    have h2 := gr_lt (p := fun m' => Cov r c m') (k := m - 1 + 1) (by omega)
    have h3 : m - c ≤ gr (fun m' => Cov r c m') (m - 1 + 1) := hla
    intro q hq
    rcases Nat.lt_or_ge q (gr (fun m' => Cov r c m') (m - 1 + 1)) with k | k
    · obtain ⟨p, a1, a2, a3, a4⟩ := h1 q k
      exact ⟨p, a1, a2, by omega, a4⟩
    · exact ⟨m - c, by omega, by omega, by omega, hbm.2⟩
theorem cs_step (hm : 1 ≤ m) (hml : m ≤ r.length) : cs r m = (cs r (fl r m)).filter (fun c => decide (m - c ≤ la r (m - 1) c)) ++ [m] := by
  have hl := fl_lt (r := r) (m := m) hm
  refine sorted_ext (sorted_sel _ _) (sorted_snoc ((sorted_sel _ _).filter _) fun x hx => ?_) fun x => ?_
  · have := (mem_sel.mp (List.mem_filter.mp hx).1).1.2; omega
  · rw [List.mem_append, List.mem_filter, List.mem_singleton]
    unfold cs
    rw [mem_sel, mem_sel, decide_eq_true_eq]
    constructor
    · rintro ⟨⟨k1, k2⟩, k3⟩
      rcases Nat.lt_or_ge x m with q | q
      · obtain ⟨⟨a, b⟩, d⟩ := (cov_step hm hml k1 q).mp k3
        exact .inl ⟨⟨⟨k1, a⟩, b⟩, d⟩
      · exact .inr (by omega)
    · rintro (⟨⟨⟨k1, k2⟩, k3⟩, k4⟩ | rfl)
      · exact ⟨⟨k1, by omega⟩, (cov_step hm hml k1 (by omega)).mpr ⟨⟨k2, k3⟩, k4⟩⟩
      · exact ⟨⟨hm, Nat.le_refl _⟩, cov_start hml⟩
theorem mem_cs : c ∈ cs r m ↔ (1 ≤ c ∧ c ≤ m) ∧ Cov r c m := mem_sel
theorem mem_bs : k ∈ bs r m ↔ (1 ≤ k ∧ k ≤ m) ∧ Bd r k m := mem_sel
theorem la_step (hm : 1 ≤ m) (hml : m ≤ r.length) (c : Nat) : la r m c = if c ∈ cs r m then m else la r (m - 1) c := by
  unfold la
  rw [gr_step, show m - 1 + 1 = m by omega]
  by_cases q : Cov r c m
  · rw [if_pos q, if_pos (mem_cs.mpr ⟨⟨cov_pos hm q, (cov_bd hm hml q).1⟩, q⟩)]
  · rw [if_neg q, if_neg fun h => q (mem_cs.mp h).2]
theorem lal_zero : lal r 0 = List.replicate (r.length + 1) 0 := by
  apply List.ext_getElem (by simp [lal])
  intro j h1 h2
  simp only [lal, List.getElem_map, List.getElem_range, List.getElem_replicate, la]
  have := gr_lt (p := fun m' => Cov r j m') (k := 0 + 1) (by omega)
  have e : gr (fun m' => Cov r j m') (0 + 1) = 0 := by omega
  rw [e]; rfl
theorem lal_length : (lal r m).length = r.length + 1 := by simp [lal]
theorem lal_get (h : c ≤ r.length) : (lal r m)[c]? = some (la r m c : Int) := by simp [lal, show c < r.length + 1 by omega]
/-- the first j covers of m are marked -/
noncomputable def lap (r : List Int) (m j : Nat) : List Int := (List.range (r.length + 1)).map fun c => if c ∈ (cs r m).take j then (m : Int) else (la r (m - 1) c : Int)
theorem lap_zero : lap r m 0 = lal r (m - 1) := by simp [lap, lal]
theorem lap_length {j : Nat} : (lap r m j).length = r.length + 1 := by simp [lap]
theorem lap_set {j : Nat} (h : (cs r m)[j]? = some c) (hc : c ≤ r.length) : (lap r m j).set c (m : Int) = lap r m (j + 1) := by
  apply List.ext_getElem (by simp [lap])
  intro i h1 h2
  rw [List.getElem_set]
  simp only [lap, List.getElem_map, List.getElem_range]
  rw [List.take_add_one, h]
  simp only [Option.toList_some, List.mem_append, List.mem_singleton]
  by_cases q : c = i
  · subst q; simp
  · rw [if_neg q]
    by_cases q2 : i ∈ List.take j (cs r m)
    · simp [q2]
    · simp [q2, Ne.symm q]
theorem lap_all (hm : 1 ≤ m) (hml : m ≤ r.length) : lap r m (cs r m).length = lal r m := by
  apply List.ext_getElem (by simp [lap, lal])
  intro i h1 h2
  simp only [lap, lal, List.getElem_map, List.getElem_range, List.take_length]
  rw [la_step hm hml]
  split <;> rfl
theorem cs_le (h : c ∈ cs r m) : 1 ≤ c ∧ c ≤ m := (mem_sel.mp h).1
theorem bs_len : (bs r m).length ≤ m := by
  unfold bs sel
  exact Nat.le_trans (List.length_filter_le _ _) (by simp)
theorem cs_len : (cs r m).length ≤ m := by
  unfold cs sel
  exact Nat.le_trans (List.length_filter_le _ _) (by simp)
end
end Mine

namespace Mine
open Classical

noncomputable def occ (r : List Int) (c : Nat) : List Nat := (List.range r.length).filter fun p => decide (Occ r c p)

theorem cle_succ {x : Int} : ∀ {ps : List Nat}, ps.Pairwise (· < ·) → cle ps (x + 1) = cle ps x + if ∃ p ∈ ps, (p : Int) = x + 1 then 1 else 0
  | [], _ => by simp [cle]
  | a :: r, hs => by
    rw [List.pairwise_cons] at hs
    have ih := @cle_succ x r hs.2
    unfold cle at ih ⊢
    rw [List.filter_cons, List.filter_cons]
    by_cases h1 : (a : Int) ≤ x
    · have e : (∃ p ∈ a :: r, (p : Int) = x + 1) ↔ ∃ p ∈ r, (p : Int) = x + 1 := by
        constructor
        · rintro ⟨p, hp, q⟩
          rcases List.mem_cons.mp hp with rfl | hp
          · omega
          · exact ⟨p, hp, q⟩
        · rintro ⟨p, hp, q⟩; exact ⟨p, .tail _ hp, q⟩
      simp only [show (a : Int) ≤ x + 1 by omega, h1, decide_true, if_true, List.length_cons, e, ih]
      omega
    · have hz : (r.filter fun (p : Nat) => decide ((p : Int) ≤ x)) = [] := by
        rw [List.filter_eq_nil_iff]
        intro b hb
        have := hs.1 b hb
        simp; omega
      have hz2 : (r.filter fun (p : Nat) => decide ((p : Int) ≤ x + 1)) = [] := by
        rw [List.filter_eq_nil_iff]
        intro b hb
        have := hs.1 b hb
        simp; omega
      rw [hz, hz2]
      by_cases h2 : (a : Int) ≤ x + 1
      · have e : ∃ p ∈ a :: r, (p : Int) = x + 1 := ⟨a, .head _, by omega⟩
        rw [if_pos e]; simp [h1, h2]
      · have e : ¬ ∃ p ∈ a :: r, (p : Int) = x + 1 := by
          rintro ⟨p, hp, q⟩
          rcases List.mem_cons.mp hp with rfl | hp
          · omega
          · have := hs.1 p hp; omega
        rw [if_neg e]; simp [h1, h2]
theorem cle_neg {ps : List Nat} {x : Int} (hx : x < 0) : cle ps x = 0 := by
  unfold cle
  rw [List.length_eq_zero_iff, List.filter_eq_nil_iff]
  intro b hb
  simp; omega
theorem cle_all {ps : List Nat} {x : Int} (h : ∀ p ∈ ps, (p : Int) ≤ x) : cle ps x = ps.length := by
  unfold cle
  rw [List.filter_eq_self.mpr fun p hp => decide_eq_true (h p hp)]

section
variable {r : List Int} {c m k p j : Nat}
theorem mem_occ (hc : 1 ≤ c) : p ∈ occ r c ↔ Occ r c p := by
  unfold occ
  rw [List.mem_filter, List.mem_range, decide_eq_true_eq]
  exact ⟨fun h => h.2, fun h => ⟨by have := h.1; omega, h⟩⟩
theorem sorted_occ : (occ r c).Pairwise (· < ·) := List.Pairwise.filter _ List.pairwise_lt_range
theorem occ_len : (occ r c).length ≤ r.length := by
  unfold occ
  exact Nat.le_trans (List.length_filter_le _ _) (by simp)

/-- a slice tells an occurrence -/
theorem slice_occ (h1 : 1 ≤ m) (hm : m ≤ r.length) : (r.take (p + m)).drop p = r.take m ↔ Occ r m p := by
  constructor
  · intro h
    have hl := congrArg List.length h
    simp only [List.length_drop, List.length_take] at hl
    have hpm : p + m ≤ r.length := by omega
    refine ⟨hpm, fun j hj => ?_⟩
    have e := congrArg (fun l : List Int => l[j]?) h
    simp only [List.getElem?_drop, List.getElem?_take] at e
    rw [if_pos (by omega), if_pos hj] at e
    exact e
  · rintro ⟨h1, h2⟩
    apply List.ext_getElem?
    intro j
    simp only [List.getElem?_drop, List.getElem?_take]
    by_cases hj : j < m
    · rw [if_pos (by omega), if_pos hj]; exact h2 j hj
    · rw [if_neg (by omega), if_neg hj]

/-- where the k-th count is reached -/
noncomputable def vk (r : List Int) (m k : Nat) : Nat := match (occ r m)[k]? with
  | some p => p + m - 1
  | none => r.length
/-- the counts: f j for each place j -/
theorem vk_spec (h1 : 1 ≤ m) (hm : m ≤ r.length) : vk r m k ≤ r.length ∧ (∀ j, j < vk r m k → cle (occ r m) ((j : Int) + 1 - m) ≤ k) ∧ ∀ j, vk r m k ≤ j → j < r.length → k < cle (occ r m) ((j : Int) + 1 - m) := by
  unfold vk
  cases hk : (occ r m)[k]? with
  | none =>
    have hl : (occ r m).length ≤ k := List.getElem?_eq_none_iff.mp hk
    exact ⟨Nat.le_refl _, fun j hj => Nat.le_trans (cle_le _ _) hl, fun j a b => absurd b (Nat.not_lt.mpr a)⟩
  | some p =>
    have hp := (mem_occ h1).mp (List.mem_of_getElem? hk)
    have hpl := hp.1
    refine ⟨by show p + m - 1 ≤ r.length; omega, fun j hj => ?_, fun j a b => ?_⟩
    · have hj' : j < p + m - 1 := hj
      have := mt (cle_iff (x := (j : Int) + 1 - m) sorted_occ k p hk).mp (by omega)
      omega
    · have a' : p + m - 1 ≤ j := a
      exact (cle_iff (x := (j : Int) + 1 - m) sorted_occ k p hk).mpr (by omega)
theorem vk_val (h1 : 1 ≤ m) (hk : k ≤ (occ r m).length) : (vk r m k : Int) + 1 - m = ((occ r m).map (fun (p : Nat) => (p : Int)) ++ [(r.length : Int) + 1 - m])[k]?.getD 0 := by
  unfold vk
  cases hq : (occ r m)[k]? with
  | none =>
    have hl : k = (occ r m).length := by have := List.getElem?_eq_none_iff.mp hq; omega
    subst hl
    simp
  | some p =>
    have hl : k < (occ r m).length := (List.getElem?_eq_some_iff.mp hq).1
    rw [List.getElem?_append_left (by simpa using hl), List.getElem?_map, hq]
    simp only [Option.map_some, Option.getD_some]
    omega
end
end Mine

open PySem PySem.W PyProof.Rows

namespace Mine

/-! ### heaps that grow -/
abbrev Ext (h h' : Heap) : Prop := ∀ b o, h.get? b = some o → h'.get? b = some o
theorem Ext.rfl' (h : Heap) : Ext h h := fun _ _ e => e
theorem Ext.trans' {a b c : Heap} (x : Ext a b) (y : Ext b c) : Ext a c := fun i o e => y i o (x i o e)
theorem Ext.none {a b : Heap} (x : Ext a b) {i : Addr} (e : b.get? i = none) : a.get? i = none := by
  cases q : a.get? i with
  | none => rfl
  | some o => rw [x i o q] at e; cases e
theorem ext_push (h : Heap) (o : Obj) : Ext h (h.push o) := fun _ _ e => Heap.get?_push_of_some o e
theorem get_size (h : Heap) : h.get? h.objs.size = none := by
  cases q : h.get? h.objs.size with
  | none => rfl
  | some o => exact absurd (Heap.lt_size q) (Nat.lt_irrefl _)

theorem keeps_refl (s : Shared) : Keeps s s := ⟨s.heap, s.toks, by cases s; rfl, fun _ _ e => e⟩
theorem keeps_toks (s : Shared) (t : Nat) : Keeps s { s with toks := t } := ⟨s.heap, t, rfl, fun _ _ e => e⟩
theorem keeps_mk (s : Shared) {h' : Heap} {t : Nat} (e : Ext s.heap h') : Keeps s { s with heap := h', toks := t } := ⟨h', t, rfl, e⟩
theorem keeps_trans {a b c : Shared} (x : Keeps a b) (y : Keeps b c) : Keeps a c := by
  obtain ⟨h1, t1, rfl, e1⟩ := x
  obtain ⟨h2, t2, rfl, e2⟩ := y
  exact ⟨h2, t2, rfl, fun b o e => e2 b o (e1 b o e)⟩
theorem keeps_ext {a b : Shared} (x : Keeps a b) : Ext a.heap b.heap := by
  obtain ⟨h1, t1, rfl, e1⟩ := x
  exact e1

def Mono (P : Heap → Prop) : Prop := ∀ h h', Ext h h' → P h → P h'
def MonoV (V : Heap → Value → Prop) : Prop := ∀ h h' v, Ext h h' → V h v → V h' v

/-! ### values -/
def VI (i : Int) : Heap → Value → Prop := fun _ v => ∃ t, v = .int i t
def VB (b : Bool) : Heap → Value → Prop := fun _ v => v = .bool b
def VN : Heap → Value → Prop := fun _ v => v = .none
def VX (x : Value) : Heap → Value → Prop := fun _ v => v = x
/-- a list at an address, its items told one by one -/
def LA {α : Type} (R : α → Heap → Value → Prop) (h : Heap) (a : Addr) (xs : List α) : Prop := ∃ vs : List Value, h.IsList a vs.toArray ∧ Paired (fun v x => R x h v) vs xs
def LP {α : Type} (R : α → Heap → Value → Prop) (h : Heap) (a : Addr) (xs : List α) : Prop := ∃ vs : List Value, h.PlainList a vs.toArray ∧ Paired (fun v x => R x h v) vs xs
def VLA {α : Type} (R : α → Heap → Value → Prop) (xs : List α) : Heap → Value → Prop := fun h v => ∃ a, v = .ref a ∧ LA R h a xs
def VLP {α : Type} (N : Addr → Prop) (R : α → Heap → Value → Prop) (xs : List α) : Heap → Value → Prop := fun h v => ∃ a, v = .ref a ∧ LP R h a xs ∧ N a
abbrev IL := LA VI
abbrev PL := LP VI
abbrev VIL := VLA VI
abbrev VPL (N : Addr → Prop) := VLP N VI

theorem LP.la {α : Type} {R : α → Heap → Value → Prop} {h : Heap} {a : Addr} {xs : List α} (x : LP R h a xs) : LA R h a xs := let ⟨vs, p, i⟩ := x; ⟨vs, p.isList, i⟩
theorem LP.ext {α : Type} {R : α → Heap → Value → Prop} {h h' : Heap} {a : Addr} {xs : List α} (x : LP R h a xs) (hR : ∀ x, MonoV (R x)) (e : Ext h h') : LP R h' a xs :=
  let ⟨vs, p, i⟩ := x; ⟨vs, p.at fun o q => e a o q, i.mono fun v y k => hR y _ _ v e k⟩
theorem LA.ext {α : Type} {R : α → Heap → Value → Prop} {h h' : Heap} {a : Addr} {xs : List α} (x : LA R h a xs) (hR : ∀ x, MonoV (R x)) (e : Ext h h') : LA R h' a xs :=
  let ⟨vs, ⟨o, ho, r⟩, i⟩ := x; ⟨vs, ⟨o, e a o ho, r⟩, i.mono fun v y k => hR y _ _ v e k⟩
theorem VI.mono (i : Int) : MonoV (VI i) := fun _ _ _ _ x => x
theorem VB.mono (b : Bool) : MonoV (VB b) := fun _ _ _ _ x => x
theorem VN.mono : MonoV VN := fun _ _ _ _ x => x
theorem VX.mono (x : Value) : MonoV (VX x) := fun _ _ _ _ x => x
theorem VLA.mono {α : Type} {R : α → Heap → Value → Prop} (hR : ∀ x, MonoV (R x)) (xs : List α) : MonoV (VLA R xs) := fun _ _ _ e ⟨a, q, x⟩ => ⟨a, q, x.ext hR e⟩
theorem VLP.mono {α : Type} {R : α → Heap → Value → Prop} (hR : ∀ x, MonoV (R x)) (N : Addr → Prop) (xs : List α) : MonoV (VLP N R xs) := fun _ _ _ e ⟨a, q, x, n⟩ => ⟨a, q, x.ext hR e, n⟩
theorem VLP.la {α : Type} {R : α → Heap → Value → Prop} {N : Addr → Prop} {xs : List α} {h : Heap} {v : Value} (x : VLP N R xs h v) : VLA R xs h v := let ⟨a, q, p, _⟩ := x; ⟨a, q, p.la⟩
theorem VIL.mono (ns : List Int) : MonoV (VIL ns) := VLA.mono VI.mono ns
theorem VPL.mono (N : Addr → Prop) (ns : List Int) : MonoV (VPL N ns) := VLP.mono VI.mono N ns

theorem paired_ints {h : Heap} {vs : List Value} {ns : List Int} (p : Paired (fun v x => VI x h v) vs ns) : IntsAre vs ns := by
  induction p with
  | nil => exact .nil
  | cons k _ ih => obtain ⟨t, rfl⟩ := k; exact .cons _ t ih
theorem ints_paired {h : Heap} {vs : List Value} {ns : List Int} (p : IntsAre vs ns) : Paired (fun v x => VI x h v) vs ns := by
  induction p with
  | nil => exact .nil
  | cons n t _ ih => exact .cons ⟨t, rfl⟩ ih
theorem paired_get {α β : Type} {F : α → β → Prop} {l : List α} {r : List β} (p : Paired F l r) : ∀ (i : Nat) (b : β), r[i]? = some b → ∃ a, l[i]? = some a ∧ F a b := by
  induction p with
  | nil => intro i b h; simp at h
  | cons k _ ih =>
    intro i b h
    cases i with
    | zero => simp at h; subst h; exact ⟨_, by simp, k⟩
    | succ i => simp at h; obtain ⟨a, e, f⟩ := ih i b h; exact ⟨a, by simpa using e, f⟩
theorem paired_drop {α β : Type} {F : α → β → Prop} {l : List α} {r : List β} (p : Paired F l r) : ∀ k : Nat, Paired F (l.drop k) (r.drop k) := by
  induction p with
  | nil => intro k; simpa using Paired.nil
  | cons k q ih => intro i; cases i with
    | zero => exact .cons k q
    | succ i => simpa using ih i
theorem paired_take {α β : Type} {F : α → β → Prop} {l : List α} {r : List β} (p : Paired F l r) : ∀ k : Nat, Paired F (l.take k) (r.take k) := by
  induction p with
  | nil => intro k; simpa using Paired.nil
  | cons k q ih => intro i; cases i with
    | zero => exact .nil
    | succ i => exact .cons k (ih i)
theorem paired_append {α β : Type} {F : α → β → Prop} {l l' : List α} {r r' : List β} (p : Paired F l r) (q : Paired F l' r') : Paired F (l ++ l') (r ++ r') := by
  induction p with
  | nil => exact q
  | cons k _ ih => exact .cons k ih
theorem paired_set {α β : Type} {F : α → β → Prop} {l : List α} {r : List β} (p : Paired F l r) : ∀ (i : Nat) (a : α) (b : β), F a b → Paired F (l.set i a) (r.set i b) := by
  induction p with
  | nil => intro i a b h; simpa using Paired.nil
  | cons k q ih => intro i a b h; cases i with
    | zero => exact .cons h q
    | succ i => exact .cons k (ih i a b h)
theorem paired_rep {α β : Type} {F : α → β → Prop} {a : α} {b : β} (h : F a b) : ∀ n : Nat, Paired F (List.replicate n a) (List.replicate n b)
  | 0 => .nil
  | n + 1 => .cons h (paired_rep h n)

/-! ### expressions -/
section
variable (prog : Program) (w : World) (A : Around) (env : Env)
def Ev (P : Heap → Prop) (e : Expr) (V : Heap → Value → Prop) : Prop :=
  ∀ (s : Shared) (E : Value → Shared → Prop), P s.heap → wpAny (model prog w) A (eval e env) (fun v s' => Keeps s s' ∧ V s'.heap v) E s
/-- a test -/
def It (P : Heap → Prop) (e : Expr) (b : Bool) : Prop :=
  ∀ (s : Shared) (E : Value → Shared → Prop) (whole : Sem Value), whole = eval e env → P s.heap → wpAny (model prog w) A (isTrue e env whole) (fun c s' => Keeps s s' ∧ c = b) E s
end

section
variable {prog : Program} {w : World} {A : Around} {env : Env} {P P' : Heap → Prop} {e l r : Expr} {V V' V1 V2 : Heap → Value → Prop} {pos : Pos}

theorem Ev.use {s : Shared} {E : Value → Shared → Prop} {Q : Value → Shared → Prop} (h : Ev prog w A env P e V) (hP : P s.heap) (k : ∀ v s', Keeps s s' → V s'.heap v → Q v s') : wpAny (model prog w) A (eval e env) Q E s :=
  wpAny_mono (h s E hP) (fun v s' x => k v s' x.1 x.2) fun _ _ x => x
theorem Ev.conseq (h : Ev prog w A env P e V) (hP : ∀ h, P' h → P h) (hV : ∀ h v, V h v → V' h v) : Ev prog w A env P' e V' := fun s _ p =>
  h.use (hP _ p) fun v s' k x => ⟨k, hV _ v x⟩
theorem Ev.pre (hP : ∀ h, P' h → P h) (h : Ev prog w A env P e V) : Ev prog w A env P' e V := h.conseq hP fun _ _ x => x
theorem Ev.post (hV : ∀ h v, V h v → V' h v) (h : Ev prog w A env P e V) : Ev prog w A env P e V' := h.conseq (fun _ x => x) hV
/-- keep the state's own word -/
theorem Ev.and (m : Mono P) (h : Ev prog w A env P e V) : Ev prog w A env P e (fun h v => V h v ∧ P h) := fun s _ p =>
  h.use p fun v s' k x => ⟨k, x, m _ _ (keeps_ext k) p⟩
theorem Ev.ex {α : Type} {Q : α → Heap → Prop} (h : ∀ x, Ev prog w A env (Q x) e V) : Ev prog w A env (fun h => ∃ x, Q x h) e V := fun s E p =>
  let ⟨x, q⟩ := p; h x s E q
theorem Ev.of {φ : Prop} (h : φ → Ev prog w A env P e V) : Ev prog w A env (fun h => φ ∧ P h) e V := fun s E p => h p.1 s E p.2

theorem ev_int {i : Int} {k : Nat} : Ev prog w A env P (.Constant (.int i) k pos) (VI i) := fun s _ _ =>
  wpAny_Constant_int ⟨keeps_toks s _, _, rfl⟩
theorem ev_bool {b : Bool} {k : Nat} : Ev prog w A env P (.Constant (.bool b) k pos) (VB b) := fun s _ _ =>
  Constant_bool ⟨keeps_refl s, rfl⟩
theorem ev_none {k : Nat} : Ev prog w A env P (.Constant .none k pos) VN := fun s _ _ =>
  Constant_none ⟨keeps_refl s, rfl⟩

theorem ev_bin {op : Operator} (m : Mono P) (m1 : MonoV V1) (h1 : Ev prog w A env P l V1) (h2 : Ev prog w A env P r V2)
    (ho : ∀ (s : Shared) (E : Value → Shared → Prop) v1 v2, P s.heap → V1 s.heap v1 → V2 s.heap v2 → wpAny (model prog w) A (binaryOp op v1 v2) (fun v s' => Keeps s s' ∧ V s'.heap v) E s) :
    Ev prog w A env P (.BinOp l op r pos) V := fun s _ p =>
  wpAny_BinOp (h1.use p fun v1 s1 k1 x1 => h2.use (m _ _ (keeps_ext k1) p) fun v2 s2 k2 x2 =>
    wpAny_mono (ho s2 _ v1 v2 (m _ _ (keeps_ext (keeps_trans k1 k2)) p) (m1 _ _ _ (keeps_ext k2) x1) x2) (fun _ _ y => ⟨keeps_trans (keeps_trans k1 k2) y.1, y.2⟩) fun _ _ x => x)
theorem ev_cmp {op : CmpOp} (m : Mono P) (m1 : MonoV V1) (h1 : Ev prog w A env P l V1) (h2 : Ev prog w A env P r V2)
    (ho : ∀ (s : Shared) (E : Value → Shared → Prop) v1 v2, P s.heap → V1 s.heap v1 → V2 s.heap v2 → wpAny (model prog w) A (compareOp op v1 v2) (fun v s' => Keeps s s' ∧ V s'.heap v) E s)
    (hm : behindInMarks op r = false := by with_unfolding_all rfl) :
    Ev prog w A env P (.Compare l [op] [r] pos) V := fun s _ p =>
  wpAny_Compare1 (h1.use p fun v1 s1 k1 x1 => h2.use (m _ _ (keeps_ext k1) p) fun v2 s2 k2 x2 =>
    wpAny_mono (ho s2 _ v1 v2 (m _ _ (keeps_ext (keeps_trans k1 k2)) p) (m1 _ _ _ (keeps_ext k2) x1) x2) (fun _ _ y => ⟨keeps_trans (keeps_trans k1 k2) y.1, y.2⟩) fun _ _ x => x) hm
theorem it_cmp {op : CmpOp} {b : Bool} (m : Mono P) (m1 : MonoV V1) (h1 : Ev prog w A env P l V1) (h2 : Ev prog w A env P r V2)
    (ho : ∀ (s : Shared) (E : Value → Shared → Prop) v1 v2, P s.heap → V1 s.heap v1 → V2 s.heap v2 → wpAny (model prog w) A (compareOp op v1 v2) (fun v s' => Keeps s s' ∧ VB b s'.heap v) E s)
    (hm : behindInMarks op r = false := by with_unfolding_all rfl) :
    It prog w A env P (.Compare l [op] [r] pos) b := fun s _ _ _ p =>
  wpAny_isTrue_Compare1 (h1.use p fun v1 s1 k1 x1 => h2.use (m _ _ (keeps_ext k1) p) fun v2 s2 k2 x2 =>
    wpAny_mono (ho s2 _ v1 v2 (m _ _ (keeps_ext (keeps_trans k1 k2)) p) (m1 _ _ _ (keeps_ext k2) x1) x2) (fun _ _ y => by
      obtain ⟨y1, y2⟩ := y
      cases y2
      exact wpAny_truthy_bool ⟨keeps_trans (keeps_trans k1 k2) y1, rfl⟩) fun _ _ x => x) hm

theorem bim {op : CmpOp} {r : Expr} (h : (op == .In) = false) (h' : (op == .NotIn) = false) : behindInMarks op r = false := by
  unfold behindInMarks
  split
  · simp [h, h']
  · rfl
theorem op_add {a b : Int} (s : Shared) (E : Value → Shared → Prop) (v1 v2 : Value) (x1 : VI a s.heap v1) (x2 : VI b s.heap v2) :
    wpAny (model prog w) A (binaryOp .Add v1 v2) (fun v s' => Keeps s s' ∧ VI (a + b) s'.heap v) E s := by
  obtain ⟨t, rfl⟩ := x1; obtain ⟨u, rfl⟩ := x2
  exact add_int ⟨keeps_toks s _, _, rfl⟩
theorem op_sub {a b : Int} (s : Shared) (E : Value → Shared → Prop) (v1 v2 : Value) (x1 : VI a s.heap v1) (x2 : VI b s.heap v2) :
    wpAny (model prog w) A (binaryOp .Sub v1 v2) (fun v s' => Keeps s s' ∧ VI (a - b) s'.heap v) E s := by
  obtain ⟨t, rfl⟩ := x1; obtain ⟨u, rfl⟩ := x2
  exact sub_int ⟨keeps_toks s _, _, rfl⟩
theorem op_fdiv {a b : Int} (hb : b ≠ 0) (hp : Builtin.divisionGoesByPylong a b = false) (s : Shared) (E : Value → Shared → Prop) (v1 v2 : Value) (x1 : VI a s.heap v1) (x2 : VI b s.heap v2) :
    wpAny (model prog w) A (binaryOp .FloorDiv v1 v2) (fun v s' => Keeps s s' ∧ VI (a.fdiv b) s'.heap v) E s := by
  obtain ⟨t, rfl⟩ := x1; obtain ⟨u, rfl⟩ := x2
  exact floordiv_int hb ⟨keeps_toks s _, _, rfl⟩ (.inl hp)
theorem op_mod {a b : Int} (hb : b ≠ 0) (s : Shared) (E : Value → Shared → Prop) (v1 v2 : Value) (x1 : VI a s.heap v1) (x2 : VI b s.heap v2) :
    wpAny (model prog w) A (binaryOp .Mod v1 v2) (fun v s' => Keeps s s' ∧ VI (a.fmod b) s'.heap v) E s := by
  obtain ⟨t, rfl⟩ := x1; obtain ⟨u, rfl⟩ := x2
  exact mod_int' hb ⟨keeps_toks s _, _, rfl⟩

theorem ev_add {a b : Int} (m : Mono P) (h1 : Ev prog w A env P l (VI a)) (h2 : Ev prog w A env P r (VI b)) : Ev prog w A env P (.BinOp l .Add r pos) (VI (a + b)) :=
  ev_bin m (VI.mono a) h1 h2 fun s E v1 v2 _ x1 x2 => op_add s E v1 v2 x1 x2
theorem ev_sub {a b : Int} (m : Mono P) (h1 : Ev prog w A env P l (VI a)) (h2 : Ev prog w A env P r (VI b)) : Ev prog w A env P (.BinOp l .Sub r pos) (VI (a - b)) :=
  ev_bin m (VI.mono a) h1 h2 fun s E v1 v2 _ x1 x2 => op_sub s E v1 v2 x1 x2
theorem ev_fdiv {a b : Int} (m : Mono P) (h1 : Ev prog w A env P l (VI a)) (h2 : Ev prog w A env P r (VI b)) (hb : b ≠ 0) (hs : b.natAbs < 1073741824) : Ev prog w A env P (.BinOp l .FloorDiv r pos) (VI (a.fdiv b)) :=
  ev_bin m (VI.mono a) h1 h2 fun s E v1 v2 _ x1 x2 => op_fdiv hb (PyProof.noPylong_small hs) s E v1 v2 x1 x2
theorem ev_mod {a b : Int} (m : Mono P) (h1 : Ev prog w A env P l (VI a)) (h2 : Ev prog w A env P r (VI b)) (hb : b ≠ 0) : Ev prog w A env P (.BinOp l .Mod r pos) (VI (a.fmod b)) :=
  ev_bin m (VI.mono a) h1 h2 fun s E v1 v2 _ x1 x2 => op_mod hb s E v1 v2 x1 x2

theorem it_lt {a b : Int} (m : Mono P) (h1 : Ev prog w A env P l (VI a)) (h2 : Ev prog w A env P r (VI b)) : It prog w A env P (.Compare l [.Lt] [r] pos) (decide (a < b)) :=
  it_cmp m (VI.mono a) h1 h2 (fun s E v1 v2 _ x1 x2 => by obtain ⟨t, rfl⟩ := x1; obtain ⟨u, rfl⟩ := x2; exact lt_int ⟨keeps_refl s, rfl⟩) (bim rfl rfl)
theorem it_ge {a b : Int} (m : Mono P) (h1 : Ev prog w A env P l (VI a)) (h2 : Ev prog w A env P r (VI b)) : It prog w A env P (.Compare l [.GtE] [r] pos) (decide (b ≤ a)) :=
  it_cmp m (VI.mono a) h1 h2 (fun s E v1 v2 _ x1 x2 => by obtain ⟨t, rfl⟩ := x1; obtain ⟨u, rfl⟩ := x2; exact ge_int ⟨keeps_refl s, rfl⟩) (bim rfl rfl)
theorem it_eq {a b : Int} (m : Mono P) (h1 : Ev prog w A env P l (VI a)) (h2 : Ev prog w A env P r (VI b)) : It prog w A env P (.Compare l [.Eq] [r] pos) (a == b) :=
  it_cmp m (VI.mono a) h1 h2 (fun s E v1 v2 _ x1 x2 => by obtain ⟨t, rfl⟩ := x1; obtain ⟨u, rfl⟩ := x2; exact eq_int ⟨keeps_refl s, rfl⟩) (bim rfl rfl)
theorem it_ne {a b : Int} (m : Mono P) (h1 : Ev prog w A env P l (VI a)) (h2 : Ev prog w A env P r (VI b)) : It prog w A env P (.Compare l [.NotEq] [r] pos) (a != b) :=
  it_cmp m (VI.mono a) h1 h2 (fun s E v1 v2 _ x1 x2 => by obtain ⟨t, rfl⟩ := x1; obtain ⟨u, rfl⟩ := x2; exact ne_int ⟨keeps_refl s, rfl⟩) (bim rfl rfl)
end
end Mine

namespace Mine

/-! ### names -/
def Var (env : Env) (h : Heap) (x : Str) (v : Value) : Prop :=
  (env.kindOf x = some .local ∧ ∃ m, h.Ns env.locals m ∧ m x = some v) ∨
  ((env.kindOf x = some .cell ∨ env.kindOf x = some .free) ∧ ∃ c, env.cells.lookup x = some c ∧ h.IsCell c (some v))
theorem Var.ext {env : Env} {h h' : Heap} {x : Str} {v : Value} (k : Var env h x v) (e : Ext h h') : Var env h' x v := by
  rcases k with ⟨k, m, hn, hm⟩ | ⟨k, c, hc, hv⟩
  · exact .inl ⟨k, m, hn.keeps e, hm⟩
  · exact .inr ⟨k, c, hc, hv.keeps e⟩

inductive VD where
  | int (i : Int)
  | ref (a : Addr)
  | none
def VD.is : VD → Value → Prop
  | .int i, v => ∃ t, v = .int i t
  | .ref a, v => v = .ref a
  | .none, v => v = .none

structure St (g : Heap) (env : Env) (l : List (Str × VD)) (h : Heap) : Prop where
  keep : Ext g h
  vars : ∀ x d, l.lookup x = some d → ∃ v, Var env h x v ∧ d.is v
theorem St.ext {g : Heap} {env : Env} {l : List (Str × VD)} {h h' : Heap} (S : St g env l h) (e : Ext h h') : St g env l h' :=
  ⟨S.keep.trans' e, fun x d k => let ⟨v, a, b⟩ := S.vars x d k; ⟨v, a.ext e, b⟩⟩
theorem lookup_mem {α : Type} {l : List (Str × α)} {x : Str} {d : α} (h : l.lookup x = some d) : (x, d) ∈ l := PySem.mem_of_lookup h
theorem St.weak {g : Heap} {env : Env} {l l' : List (Str × VD)} {h : Heap} (S : St g env l' h) (k : ∀ p ∈ l, l'.lookup p.1 = some p.2) : St g env l h :=
  ⟨S.keep, fun x d e => S.vars x d (k (x, d) (lookup_mem e))⟩

/-- what the names outside a def mean -/
structure Gl (g₀ : Heap) (mg mb : Str → Option Value) : Prop where
  g : g₀.Ns mainGlobals mg
  b : g₀.Ns builtinsNs mb
  lim : g₀.NoLimit

section
variable {prog : Program} {w : World} {A : Around} {env : Env} {P P' : Heap → Prop} {e l r : Expr} {V V' V1 V2 : Heap → Value → Prop} {pos p : Pos} {g : Heap} {mg mb : Str → Option Value}

theorem ev_var {x : Str} (hv : ∀ h, P h → ∃ v, Var env h x v ∧ V h v) (hk : env.scope.kind = .function := by rfl) (hd : (x == ("__debug__" : Str)) = false := by decide)
    (hc : (x == ("__classdict__" : Str)) = false := by decide) : Ev prog w A env P (.Name x pos) V := fun s E hP => by
  obtain ⟨v, k, y⟩ := hv _ hP
  refine wpAny_Name ?_ hd
  rcases k with ⟨k, m, hn, hm⟩ | ⟨k | k, c, hc', hv'⟩
  · exact wpAny_loadName_local hk k hn hm ⟨keeps_refl s, y⟩
  · exact wpAny_loadName_cell hk k hc' hv' ⟨keeps_refl s, y⟩
  · exact wpAny_loadName_free hk k hc' hv' ⟨keeps_refl s, y⟩ hc
theorem ev_st_int {x : Str} {vl : List (Str × VD)} {i : Int} (hS : ∀ h, P h → St g env vl h) (hl : vl.lookup x = some (.int i) := by rfl) (hk : env.scope.kind = .function := by rfl)
    (hd : (x == ("__debug__" : Str)) = false := by decide) (hc : (x == ("__classdict__" : Str)) = false := by decide) : Ev prog w A env P (.Name x pos) (VI i) :=
  ev_var (fun h p => (hS h p).vars x _ hl) hk hd hc
theorem ev_st_ref {x : Str} {vl : List (Str × VD)} {a : Addr} (hS : ∀ h, P h → St g env vl h) (hl : vl.lookup x = some (.ref a) := by rfl) (hk : env.scope.kind = .function := by rfl)
    (hd : (x == ("__debug__" : Str)) = false := by decide) (hc : (x == ("__classdict__" : Str)) = false := by decide) : Ev prog w A env P (.Name x pos) (VX (.ref a)) :=
  ev_var (fun h p => (hS h p).vars x _ hl) hk hd hc
theorem ev_st_none {x : Str} {vl : List (Str × VD)} (hS : ∀ h, P h → St g env vl h) (hl : vl.lookup x = some .none := by rfl) (hk : env.scope.kind = .function := by rfl)
    (hd : (x == ("__debug__" : Str)) = false := by decide) (hc : (x == ("__classdict__" : Str)) = false := by decide) : Ev prog w A env P (.Name x pos) VN :=
  ev_var (fun h p => (hS h p).vars x _ hl) hk hd hc
theorem ev_glob {x : Str} {v : Value} (G : Gl g mg mb) (hP : ∀ h, P h → Ext g h) (hv : mg x = some v) (hx : env.kindOf x = some .globalImplicit := by rfl) (he : env.globals = mainGlobals := by rfl) (hk : env.scope.kind = .function := by rfl)
    (hd : (x == ("__debug__" : Str)) = false := by decide) : Ev prog w A env P (.Name x pos) (VX v) := fun s E q =>
  Calls.Name_function_global hk hx (Calls.loadGlobal_global (by rw [he]; exact G.g.keeps (hP _ q)) hv ⟨keeps_refl s, rfl⟩) hd
theorem ev_builtin {x : Str} {v : Value} (G : Gl g mg mb) (hP : ∀ h, P h → Ext g h) (hm : mg x = none) (hv : mb x = some v) (hx : env.kindOf x = some .globalImplicit := by rfl) (he : env.globals = mainGlobals := by rfl)
    (hb : env.builtins = builtinsNs := by rfl) (hk : env.scope.kind = .function := by rfl)
    (hd : (x == ("__debug__" : Str)) = false := by decide) : Ev prog w A env P (.Name x pos) (VX v) := fun s E q =>
  Calls.Name_function_global hk hx (Calls.loadGlobal_builtin (by rw [he]; exact G.g.keeps (hP _ q)) hm (by rw [hb]; exact G.b.keeps (hP _ q)) hv ⟨keeps_refl s, rfl⟩) hd

/-! ### arguments, calls -/
def Evs (prog : Program) (w : World) (A : Around) (env : Env) (P : Heap → Prop) (pos : Pos) (es : List Expr) (V : Heap → List Value → Prop) : Prop :=
  ∀ (s : Shared) (E : Value → Shared → Prop), P s.heap → wpAny (model prog w) A (spliced (backTo pos (starEach es env))) (fun v s' => Keeps s s' ∧ V s'.heap v) E s
theorem evs_nil : Evs prog w A env P pos [] (fun _ vs => vs = []) := fun s _ _ => args_nil ⟨keeps_refl s, rfl⟩
theorem evs_cons {es : List Expr} {Vs : Heap → List Value → Prop} (m : Mono P) (m1 : MonoV V) (h1 : Ev prog w A env P e V) (h2 : Evs prog w A env P pos es Vs)
    (he : starEach (e :: es) env = (false, eval e env) :: starEach es env := by rfl) : Evs prog w A env P pos (e :: es) (fun h vs => ∃ v r, vs = v :: r ∧ V h v ∧ Vs h r) := fun s E hP =>
  args_cons (h1.use hP fun v s1 k1 x1 => wpAny_mono (h2 s1 E (m _ _ (keeps_ext k1) hP)) (fun r s2 y => ⟨keeps_trans k1 y.1, v, r, rfl, m1 _ _ _ (keeps_ext y.1) x1, y.2⟩) fun _ _ x => x) he

theorem ev_call_builtin {x : Str} {id : String} {es : List Expr} {Vs : Heap → List Value → Prop} (m : Mono P) (hf : Ev prog w A env P (.Name x p) (VX (.builtin id))) (ha : Evs prog w A env P pos (e :: es) Vs)
    (hc : ∀ (s : Shared) (E : Value → Shared → Prop) vs, P s.heap → Vs s.heap vs → wpAny (model prog w) A (call (.builtin id) vs) (fun v s' => Keeps s s' ∧ V s'.heap v) E s)
    (he : starEach (e :: es) env = (false, eval e env) :: starEach es env := by rfl) (hplain : (backTo pos (starEach es env)).any (·.1) = false := by rfl)
    (hcall : eval (.Call (.Name x p) (e :: es) [] pos) env = (do callWith pos (← eval (.Name x p) env) [] (backTo pos (starEach (e :: es) env)) (backToKw pos (keywordEach [] env))) := by rfl) :
    Ev prog w A env P (.Call (.Name x p) (e :: es) [] pos) V := fun s E hP =>
  Call_ (hf.use hP fun v s1 k1 x1 => by
    cases x1
    exact callWith_builtin1 (wpAny_mono (ha s1 E (m _ _ (keeps_ext k1) hP)) (fun vs s2 y => wpAny_mono (hc s2 E vs (m _ _ (keeps_ext (keeps_trans k1 y.1)) hP) y.2) (fun _ _ z => ⟨keeps_trans (keeps_trans k1 y.1) z.1, z.2⟩) fun _ _ x => x) fun _ _ x => x) he hplain) hcall
theorem ev_call_type {x : Str} {id : String} {es : List Expr} {Vs : Heap → List Value → Prop} (m : Mono P) (hf : Ev prog w A env P (.Name x p) (VX (.type id))) (ha : Evs prog w A env P pos (e :: es) Vs)
    (hc : ∀ (s : Shared) (E : Value → Shared → Prop) vs, P s.heap → Vs s.heap vs → wpAny (model prog w) A (call (.type id) vs) (fun v s' => Keeps s s' ∧ V s'.heap v) E s)
    (he : starEach (e :: es) env = (false, eval e env) :: starEach es env := by rfl) (hplain : (backTo pos (starEach es env)).any (·.1) = false := by rfl)
    (hcall : eval (.Call (.Name x p) (e :: es) [] pos) env = (do callWith pos (← eval (.Name x p) env) [] (backTo pos (starEach (e :: es) env)) (backToKw pos (keywordEach [] env))) := by rfl) :
    Ev prog w A env P (.Call (.Name x p) (e :: es) [] pos) V := fun s E hP =>
  Call_ (hf.use hP fun v s1 k1 x1 => by
    cases x1
    exact callWith_type1 (wpAny_mono (ha s1 E (m _ _ (keeps_ext k1) hP)) (fun vs s2 y => wpAny_mono (hc s2 E vs (m _ _ (keeps_ext (keeps_trans k1 y.1)) hP) y.2) (fun _ _ z => ⟨keeps_trans (keeps_trans k1 y.1) z.1, z.2⟩) fun _ _ x => x) fun _ _ x => x) he hplain) hcall
theorem ev_call_def {x : Str} {f : Addr} {o : Obj} {fd : FuncData} {es : List Expr} {Vs : Heap → List Value → Prop} (m : Mono P) (hf : Ev prog w A env P (.Name x p) (VX (.ref f))) (ha : Evs prog w A env P pos (e :: es) Vs)
    (ho : ∀ h, P h → h.get? f = some o) (hd : o.data = .func fd)
    (hc : ∀ (s : Shared) (E : Value → Shared → Prop) vs, P s.heap → Vs s.heap vs → wpAny (model prog w) A (call (.ref f) vs) (fun v s' => Keeps s s' ∧ V s'.heap v) E s)
    (he : starEach (e :: es) env = (false, eval e env) :: starEach es env := by rfl)
    (hcall : eval (.Call (.Name x p) (e :: es) [] pos) env = (do callWith pos (← eval (.Name x p) env) [] (backTo pos (starEach (e :: es) env)) (backToKw pos (keywordEach [] env))) := by rfl) :
    Ev prog w A env P (.Call (.Name x p) (e :: es) [] pos) V := fun s E hP =>
  Call_ (hf.use hP fun v s1 k1 x1 => by
    cases x1
    refine callWith_def hd (wpAny_mono (ha s1 E (m _ _ (keeps_ext k1) hP)) (fun vs s2 y => ?_) fun _ _ x => x) he
    have p2 := m _ _ (keeps_ext (keeps_trans k1 y.1)) hP
    exact ⟨ho _ p2, wpAny_mono (hc s2 E vs p2 y.2) (fun _ _ z => ⟨keeps_trans (keeps_trans k1 y.1) z.1, z.2⟩) fun _ _ x => x⟩) hcall

theorem ev_len {α : Type} {R : α → Heap → Value → Prop} {xs : List α} (m : Mono P) (hR : ∀ x, MonoV (R x)) (hf : Ev prog w A env P (.Name "len" p) (VX (.builtin "len"))) (h : Ev prog w A env P e (VLA R xs)) (hsz : xs.length < 2 ^ 62)
    (he : starEach [e] env = (false, eval e env) :: starEach [] env := by rfl)
    (hcall : eval (.Call (.Name "len" p) [e] [] pos) env = (do callWith pos (← eval (.Name "len" p) env) [] (backTo pos (starEach [e] env)) (backToKw pos (keywordEach [] env))) := by rfl) :
    Ev prog w A env P (.Call (.Name "len" p) [e] [] pos) (VI xs.length) :=
  ev_call_builtin m hf (evs_cons m (VLA.mono hR xs) h evs_nil he) (fun s E vs _ hv => by
    obtain ⟨v, r, rfl, ⟨a, rfl, us, hl, hi⟩, rfl⟩ := hv
    have hlen := hi.length
    refine len_list hl (by simp only [List.size_toArray]; omega) ⟨keeps_toks s _, ?_⟩
    exact ⟨s.toks + 1, by simp [hlen]⟩) he rfl hcall
theorem ev_type {T : String} (m : Mono P) (hf : Ev prog w A env P (.Name "type" p) (VX (.type "type"))) (m1 : MonoV V1) (h : Ev prog w A env P e V1)
    (hT : ∀ (s : Shared) v, V1 s.heap v → s.TypeIs v T) (hn : (Value.type T == Value.type "builtin_function_or_method") = false)
    (he : starEach [e] env = (false, eval e env) :: starEach [] env := by rfl)
    (hcall : eval (.Call (.Name "type" p) [e] [] pos) env = (do callWith pos (← eval (.Name "type" p) env) [] (backTo pos (starEach [e] env)) (backToKw pos (keywordEach [] env))) := by rfl) :
    Ev prog w A env P (.Call (.Name "type" p) [e] [] pos) (VX (.type T)) :=
  ev_call_type m hf (evs_cons m m1 h evs_nil he) (fun s E vs _ hv => by
    obtain ⟨v, r, rfl, hx, rfl⟩ := hv
    exact call_type_of (hT s v hx) hn ⟨keeps_refl s, rfl⟩) he rfl hcall
/-- a range by ones -/
def VR (a b : Int) : Heap → Value → Prop := fun h v => ∃ r t u z, v = .ref r ∧ IsRange h r a b 1 t u z
theorem VR.mono (a b : Int) : MonoV (VR a b) := fun _ _ _ e ⟨r, t, u, z, q, x⟩ => ⟨r, t, u, z, q, e _ _ x⟩
theorem ev_range1 {n : Int} (m : Mono P) (hf : Ev prog w A env P (.Name "range" p) (VX (.type "range"))) (h : Ev prog w A env P e (VI n))
    (he : starEach [e] env = (false, eval e env) :: starEach [] env := by rfl)
    (hcall : eval (.Call (.Name "range" p) [e] [] pos) env = (do callWith pos (← eval (.Name "range" p) env) [] (backTo pos (starEach [e] env)) (backToKw pos (keywordEach [] env))) := by rfl) :
    Ev prog w A env P (.Call (.Name "range" p) [e] [] pos) (VR 0 n) :=
  ev_call_type m hf (evs_cons m (VI.mono n) h evs_nil he) (fun s E vs _ hv => by
    obtain ⟨v, r, rfl, ⟨t, rfl⟩, rfl⟩ := hv
    exact call_range_1 ⟨keeps_mk s (ext_push _ _), _, _, _, _, rfl, IsRange.new _ _ _ _ _ _ _⟩) he rfl hcall
theorem ev_range2 {e' : Expr} {n k : Int} (m : Mono P) (hf : Ev prog w A env P (.Name "range" p) (VX (.type "range"))) (h : Ev prog w A env P e (VI n)) (h' : Ev prog w A env P e' (VI k))
    (he : starEach [e, e'] env = (false, eval e env) :: starEach [e'] env := by rfl) (he' : starEach [e'] env = (false, eval e' env) :: starEach [] env := by rfl)
    (hplain : (backTo pos (starEach [e'] env)).any (·.1) = false := by rfl)
    (hcall : eval (.Call (.Name "range" p) [e, e'] [] pos) env = (do callWith pos (← eval (.Name "range" p) env) [] (backTo pos (starEach [e, e'] env)) (backToKw pos (keywordEach [] env))) := by rfl) :
    Ev prog w A env P (.Call (.Name "range" p) [e, e'] [] pos) (VR n k) :=
  ev_call_type m hf (evs_cons m (VI.mono n) h (evs_cons m (VI.mono k) h' evs_nil he') he) (fun s E vs _ hv => by
    obtain ⟨v, r, rfl, ⟨t, rfl⟩, v', r', rfl, ⟨t', rfl⟩, rfl⟩ := hv
    exact call_range_2 ⟨keeps_mk s (ext_push _ _), _, _, _, _, rfl, IsRange.new _ _ _ _ _ _ _⟩) he hplain hcall
end
end Mine

namespace Mine
section
variable {prog : Program} {w : World} {A : Around} {env : Env} {P P' : Heap → Prop} {e l r : Expr} {V V' V1 V2 : Heap → Value → Prop} {pos p : Pos} {g : Heap} {mg mb : Str → Option Value}
  {α : Type} {R : α → Heap → Value → Prop} {N : Addr → Prop}

/-! ### subscripts -/
theorem ev_sub_any {value idx : Expr} (m : Mono P) (m1 : MonoV V1) (h1 : Ev prog w A env P value V1) (h2 : Ev prog w A env P idx V2)
    (hg : ∀ (s : Shared) (E : Value → Shared → Prop) o i, P s.heap → V1 s.heap o → V2 s.heap i → (∃ T id, s.TypeIs o T ∧ typeLookup (.type T) "__getitem__" = pure (some (.builtin id))) ∧ wpAny (model prog w) A (getItem o i) (fun v s' => Keeps s s' ∧ V s'.heap v) E s)
    (hs : ∀ o i, ∃ ops, subscripted idx false o i = operate ops (getItem o i)) :
    Ev prog w A env P (.Subscript value idx pos) V := fun s E hP =>
  Subscript_ (h1.use hP fun o s1 k1 x1 => h2.use (m _ _ (keeps_ext k1) hP) fun i s2 k2 x2 => by
    obtain ⟨⟨T, id, hT, hl⟩, q⟩ := hg s2 E o i (m _ _ (keeps_ext (keeps_trans k1 k2)) hP) (m1 _ _ _ (keeps_ext k2) x1) x2
    obtain ⟨ops, ho⟩ := hs o i
    exact tail_any hT hl (wpAny_mono q (fun _ _ y => ⟨keeps_trans (keeps_trans k1 k2) y.1, y.2⟩) fun _ _ x => x) ho)
theorem ev_item {value idx : Expr} {xs : List α} {k : Int} {x : α} (m : Mono P) (hR : ∀ x, MonoV (R x)) (h1 : Ev prog w A env P value (VLA R xs)) (h2 : Ev prog w A env P idx (VI k)) (h0 : 0 ≤ k) (hx : xs[k.toNat]? = some x) (hsz : xs.length < 2 ^ 62)
    (hs : ∀ o i, subscripted idx false o i = operate [o, i] (getItem o i) := by intro _ _; rfl) :
    Ev prog w A env P (.Subscript value idx pos) (R x) :=
  ev_sub_any m (VLA.mono hR xs) h1 h2 (fun s E o i _ y1 y2 => by
    obtain ⟨a, rfl, vs, hl, hp⟩ := y1
    obtain ⟨t, rfl⟩ := y2
    obtain ⟨v, hv, hr⟩ := paired_get hp k.toNat x hx
    have hlt : k.toNat < xs.length := (List.getElem?_eq_some_iff.mp hx).1
    exact ⟨⟨_, _, hl.typeIs, slot_list_getitem.lookup⟩, wpAny_getItem_list hl h0 (by omega) (by simpa using hv) ⟨keeps_refl s, hr⟩⟩) fun o i => ⟨_, hs o i⟩
theorem ev_item_last {value idx : Expr} {xs : List α} {x : α} (m : Mono P) (hR : ∀ x, MonoV (R x)) (h1 : Ev prog w A env P value (VLA R xs)) (h2 : Ev prog w A env P idx (VI (-1))) (hx : xs[xs.length - 1]? = some x)
    (hs : ∀ o i, subscripted idx false o i = operate [o, i] (getItem o i) := by intro _ _; rfl) :
    Ev prog w A env P (.Subscript value idx pos) (R x) :=
  ev_sub_any m (VLA.mono hR xs) h1 h2 (fun s E o i _ y1 y2 => by
    obtain ⟨a, rfl, vs, hl, hp⟩ := y1
    obtain ⟨t, rfl⟩ := y2
    obtain ⟨v, hv, hr⟩ := paired_get hp (xs.length - 1) x hx
    have hlt : xs.length - 1 < xs.length := (List.getElem?_eq_some_iff.mp hx).1
    have hlen := hp.length
    refine ⟨⟨_, _, hl.typeIs, slot_list_getitem.lookup⟩, wpAny_getItem_list_neg hl (by omega) (by simp only [List.size_toArray]; omega) (by omega) (x := v) ?_ ⟨keeps_refl s, hr⟩⟩
    have e : ((-1 : Int) + (vs.toArray.size : Int)).toNat = xs.length - 1 := by simp only [List.size_toArray]; omega
    rw [e]; simpa using hv) fun o i => ⟨_, hs o i⟩

/-! ### slices -/
def VPart (o : Option Int) : Heap → Value → Prop := fun _ v => IsPart v o
def EvPart (prog : Program) (w : World) (A : Around) (env : Env) (P : Heap → Prop) (x : Option Expr) (o : Option Int) : Prop :=
  ∀ (s : Shared) (E : Value → Shared → Prop), P s.heap → wpAny (model prog w) A (evalPart x env) (fun v s' => Keeps s s' ∧ IsPart v o) E s
theorem part_none : EvPart prog w A env P none none := fun s _ _ => wpAny_pure ⟨keeps_refl s, .none⟩
theorem part_some {k : Int} (h : Ev prog w A env P e (VI k)) : EvPart prog w A env P (some e) (some k) := fun s E hP =>
  h.use hP fun v s' k' x => by obtain ⟨t, rfl⟩ := x; exact ⟨k', .int k t⟩
theorem ev_slice {value : Expr} {lo hi : Option Expr} {a b : Option Int} {xs ys : List α} (m : Mono P) (hR : ∀ x, MonoV (R x)) (hN : ∀ h a, P h → h.get? a = none → N a) (h1 : Ev prog w A env P value (VLA R xs)) (h2 : EvPart prog w A env P lo a) (h3 : EvPart prog w A env P hi b)
    (hsz : xs.length ≤ 2 ^ 24)
    (hy : ∀ (h : Heap) (vs : List Value), Paired (fun v x => R x h v) vs xs → Paired (fun v x => R x h v) (slicePick vs.toArray a b none).toList ys) :
    Ev prog w A env P (.Subscript value (.Slice lo hi none p) pos) (VLP N R ys) := fun s E hP =>
  Subscript_ (h1.use hP fun o s1 k1 x1 => wpAny_Slice (wpAny_mono (h2 s1 E (m _ _ (keeps_ext k1) hP)) (fun u s2 y2 => wpAny_mono (h3 s2 E (m _ _ (keeps_ext (keeps_trans k1 y2.1)) hP)) (fun z s3 y3 => by
    rw [evalPart_none]
    refine wpAny_pure ?_
    have k3 := keeps_trans (keeps_trans k1 y2.1) y3.1
    obtain ⟨a', rfl, vs, hl, hp⟩ := x1.elim fun a' q => (⟨a', q.1, q.2.ext hR ((keeps_ext y2.1).trans' (keeps_ext y3.1))⟩ : VLA R xs s3.heap o)
    have hlen := hp.length
    refine tail_any (T := "list") (id := "list.__getitem__") (ops := [.ref s3.heap.objs.size, .ref a']) ?_ list_getitem_lookup (wpAny_getItem_list_slice (hl.push _) (Heap.IsSliceOf.new ..) y2.2 y3.2 .none (by simp) ?_ ?_) rfl
    · obtain ⟨ob, hob, hc, _⟩ := hl
      exact ⟨ob, Heap.get?_push_of_some _ hob, hc⟩
    · refine ⟨keeps_trans k3 ⟨_, _, rfl, (ext_push _ _).trans' (ext_push _ _)⟩, _, rfl, ⟨(slicePick vs.toArray a b none).toList, ⟨0, ?_⟩, ?_⟩, ?_⟩
      · rw [Array.toArray_toList]
        exact Heap.get?_push_size _ rfl
      · exact (hy _ vs hp).mono fun v x q => hR x _ _ v ((ext_push _ _).trans' (ext_push _ _)) q
      · refine hN s3.heap _ (m _ _ (keeps_ext k3) hP) ?_
        exact (ext_push _ _).none (get_size _)
    · show vs.toArray.size ≤ sizeLine
      rw [sizeLine_eq, List.size_toArray]; omega) fun _ _ x => x) fun _ _ x => x))
theorem slice_from {xs : List α} {k : Int} (h0 : 0 ≤ k) (h : Heap) (vs : List Value) (hp : Paired (fun v x => R x h v) vs xs) : Paired (fun v x => R x h v) (slicePick vs.toArray (some k) none none).toList (xs.drop k.toNat) := by
  obtain ⟨j, rfl⟩ := Int.eq_ofNat_of_zero_le h0
  rw [slicePick_from']; simpa using paired_drop hp j
theorem slice_upto {xs : List α} {k : Int} (h0 : 0 ≤ k) (h : Heap) (vs : List Value) (hp : Paired (fun v x => R x h v) vs xs) : Paired (fun v x => R x h v) (slicePick vs.toArray none (some k) none).toList (xs.take k.toNat) := by
  obtain ⟨j, rfl⟩ := Int.eq_ofNat_of_zero_le h0
  rw [slicePick_upto']; simpa using paired_take hp j
theorem slice_run {xs : List α} {a b : Int} (h0 : 0 ≤ a) (h1 : 0 ≤ b) (h : Heap) (vs : List Value) (hp : Paired (fun v x => R x h v) vs xs) :
    Paired (fun v x => R x h v) (slicePick vs.toArray (some a) (some b) none).toList ((xs.take b.toNat).drop a.toNat) := by
  obtain ⟨i, rfl⟩ := Int.eq_ofNat_of_zero_le h0
  obtain ⟨j, rfl⟩ := Int.eq_ofNat_of_zero_le h1
  have hlen := hp.length
  have e : (slicePick vs.toArray (some (i : Int)) (some (j : Int)) none).toList = (vs.take j).drop i := by
    rw [slicePick_plain]
    simp only [Option.elim_some, clipAt_nat, List.size_toArray]
    by_cases hj : j ≤ vs.length
    · rw [Nat.min_eq_left hj]
      by_cases hi : i ≤ vs.length
      · rw [Nat.min_eq_left hi]; simp [List.drop_take]
      · rw [Nat.min_eq_right (by omega)]
        have e1 : (List.take j vs).length ≤ i := by simp; omega
        rw [List.drop_eq_nil_of_le e1]; simp
    · rw [Nat.min_eq_right (by omega), List.take_of_length_le (by omega : vs.length ≤ j)]
      by_cases hi : i ≤ vs.length
      · rw [Nat.min_eq_left hi]
        show List.take (vs.length - i) (List.drop i vs) = List.drop i vs
        rw [List.take_of_length_le]
        rw [List.length_drop]; exact Nat.le_refl _
      · rw [Nat.min_eq_right (by omega)]
        have e1 : vs.length ≤ i := by omega
        rw [List.drop_eq_nil_of_le e1]; simp
  rw [e]
  simpa using paired_drop (paired_take hp j) i

/-! ### displays -/
theorem ev_display {es : List Expr} {xs : List α} (m : Mono P) (hN : ∀ h a, P h → h.get? a = none → N a) (hR : ∀ x, MonoV (R x)) (h : Evs prog w A env P pos es (fun h vs => Paired (fun v x => R x h v) vs xs)) (hsz : xs.length ≤ 2 ^ 24) :
    Ev prog w A env P (.List es pos) (VLP N R xs) := fun s E hP =>
  List_ (wpAny_mono (h s E hP) (fun vs s1 y => wpAny_newObj_type (by
    refine ⟨keeps_trans y.1 ⟨_, _, rfl, ext_push _ _⟩, _, rfl, ⟨vs, ⟨0, Heap.get?_push_size _ rfl⟩, ?_⟩, ?_⟩
    · exact y.2.mono fun v x q => hR x _ _ v (ext_push _ _) q
    · exact hN s1.heap _ (m _ _ (keeps_ext y.1) hP) (get_size _)) (by
      have := y.2.length
      show vs.toArray.size ≤ sizeLine
      rw [sizeLine_eq, List.size_toArray]; omega)) fun _ _ x => x)
theorem evs_p_nil : Evs prog w A env P pos [] (fun h vs => Paired (fun v x => R x h v) vs []) := fun s _ _ => args_nil ⟨keeps_refl s, .nil⟩
theorem evs_p_cons {es : List Expr} {x : α} {xs : List α} (m : Mono P) (hR : ∀ x, MonoV (R x)) (h1 : Ev prog w A env P e (R x)) (h2 : Evs prog w A env P pos es (fun h vs => Paired (fun v x => R x h v) vs xs))
    (he : starEach (e :: es) env = (false, eval e env) :: starEach es env := by rfl) : Evs prog w A env P pos (e :: es) (fun h vs => Paired (fun v x => R x h v) vs (x :: xs)) := fun s E hP =>
  args_cons (h1.use hP fun v s1 k1 x1 => wpAny_mono (h2 s1 E (m _ _ (keeps_ext k1) hP)) (fun r s2 y => ⟨keeps_trans k1 y.1, .cons (hR _ _ _ _ (keeps_ext y.1) x1) y.2⟩) fun _ _ x => x) he

/-! ### + and * of lists -/
theorem ev_cat {N1 N2 : Addr → Prop} {xs ys : List α} (m : Mono P) (hN : ∀ h a, P h → h.get? a = none → N a) (hR : ∀ x, MonoV (R x)) (h1 : Ev prog w A env P l (VLP N1 R xs)) (h2 : Ev prog w A env P r (VLP N2 R ys)) (hsz : xs.length + ys.length ≤ 2 ^ 24) :
    Ev prog w A env P (.BinOp l .Add r pos) (VLP N R (xs ++ ys)) :=
  ev_bin m (VLP.mono hR N1 xs) h1 h2 fun s E v1 v2 hp x1 x2 => by
    obtain ⟨a, rfl, ⟨us, ⟨k, ha⟩, pa⟩, _⟩ := x1
    obtain ⟨b, rfl, ⟨ws, ⟨j, hb⟩, pb⟩, _⟩ := x2
    have e1 := pa.length
    have e2 := pb.length
    refine PySem.P.add_list ha hb ⟨⟨_, _, rfl, ext_push _ _⟩, _, rfl, ⟨us ++ ws, ⟨0, ?_⟩, ?_⟩, ?_⟩ (by rw [sizeLine_eq]; simp only [List.size_toArray]; omega)
    · rw [← List.append_toArray]
      exact Heap.get?_push_size _ rfl
    · exact (paired_append pa pb).mono fun v x q => hR x _ _ v (ext_push _ _) q
    · exact hN s.heap _ hp (get_size _)
theorem foldl_rep {β : Type} (x : β) : ∀ (n : Nat) (acc : Array β), List.foldl (fun a b => a ++ b) acc (List.replicate n #[x]) = acc ++ (List.replicate n x).toArray
  | 0, acc => by simp
  | n + 1, acc => by
    rw [List.replicate_succ, List.foldl_cons, foldl_rep x n]
    simp [List.replicate_succ]
    apply Array.ext'
    simp
theorem ev_rep {N1 : Addr → Prop} {x : α} {k : Int} (m : Mono P) (hN : ∀ h a, P h → h.get? a = none → N a) (hR : ∀ x, MonoV (R x)) (h1 : Ev prog w A env P l (VLP N1 R [x])) (h2 : Ev prog w A env P r (VI k)) (h0 : 0 ≤ k) (hsz : k ≤ 2 ^ 20) :
    Ev prog w A env P (.BinOp l .Mult r pos) (VLP N R (List.replicate k.toNat x)) :=
  ev_bin m (VLP.mono hR N1 [x]) h1 h2 fun s E v1 v2 hp x1 x2 => by
    obtain ⟨a, rfl, ⟨us, ⟨j, ha⟩, pa⟩, _⟩ := x1
    obtain ⟨u, rfl⟩ := x2
    cases pa with
    | @cons v _ vs _ hv pn =>
      cases pn
      refine wpAny_binaryOp_repeat_ref (T := "list") (U := "int") (by decide) ⟨_, ha, rfl⟩ (fun s' => typeIs_int s' k u) noFill_list_mul F.fills_int_mul F.slot_int_rmul repeat_list F.slot_int_index.lookup
        (call_meets F.slot_int_rmul (typeIs_int s k u) F.entry_int_rmul (F.args_int_rmul_2 _ _) (int___rmul___int_list k u a _ j)
          ⟨ha, rfl, ⟨_, ha, rfl⟩, call_meets F.slot_list_mul ⟨_, ha, rfl⟩ F.entry_list_mul (F.args_list_mul_2 _ _)
            (AutoListH.list___mul___list_int_3 a _ j k u (by simp [Builtin.List.listFitsIndex]; omega) (by simp; omega) (by simp [Builtin.List.listTooLong, sizeLine]; omega))
            ⟨ha, ⟨_, _, rfl, ext_push _ _⟩, _, rfl, ⟨List.replicate k.toNat v, ⟨0, ?_⟩, ?_⟩, ?_⟩⟩)
      · have e : List.foldl (fun x1 x2 => x1 ++ x2) #[] (List.replicate (if ([v].toArray).isEmpty = true then 0 else k.toNat) [v].toArray) = (List.replicate k.toNat v).toArray := by
          rw [if_neg (by simp), foldl_rep]; simp
        rw [e]
        exact Heap.get?_push_size _ rfl
      · exact paired_rep (F := fun v x => R x _ v) (hR _ _ _ _ (ext_push _ _) hv) _
      · exact hN s.heap _ hp (get_size _)

/-! ### tests -/
theorem it_ne_list {ns ms : List Int} (m : Mono P) (hu : A.units + 64 < cLine) (h1 : Ev prog w A env P l (VIL ns)) (h2 : Ev prog w A env P r (VIL ms)) : It prog w A env P (.Compare l [.NotEq] [r] pos) (!decide (ns = ms)) :=
  it_cmp m (VIL.mono ns) h1 h2 (fun s E v1 v2 _ x1 x2 => by
    obtain ⟨a, rfl, us, ha, pa⟩ := x1
    obtain ⟨b, rfl, ws, hb, pb⟩ := x2
    exact ne_intsK ha (paired_ints pa) hb (paired_ints pb) hu ⟨keeps_refl s, rfl⟩) (bim rfl rfl)
theorem it_eq_list {ns ms : List Int} (m : Mono P) (hu : A.units + 64 < cLine) (h1 : Ev prog w A env P l (VIL ns)) (h2 : Ev prog w A env P r (VIL ms)) : It prog w A env P (.Compare l [.Eq] [r] pos) (decide (ns = ms)) :=
  it_cmp m (VIL.mono ns) h1 h2 (fun s E v1 v2 _ x1 x2 => by
    obtain ⟨a, rfl, us, ha, pa⟩ := x1
    obtain ⟨b, rfl, ws, hb, pb⟩ := x2
    exact eq_intsK ha (paired_ints pa) hb (paired_ints pb) hu ⟨keeps_refl s, rfl⟩) (bim rfl rfl)
theorem any_ints {k : Int} : ∀ {vs : List Value} {ns : List Int}, IntsAre vs ns → vs.any (fun y => match y with | .int a _ => a == k | _ => false) = decide (k ∈ ns)
  | _, _, .nil => by simp
  | _, _, .cons n t q => by
    rw [List.any_cons, any_ints q]
    by_cases h : k = n
    · subst h; simp
    · have h' : ¬ n = k := fun e => h e.symm
      simp [h, h']
theorem it_in {ns : List Int} {k : Int} (m : Mono P) (h1 : Ev prog w A env P l (VI k)) (h2 : Ev prog w A env P r (VIL ns)) (hm : behindInMarks .In r = false := by rfl) : It prog w A env P (.Compare l [.In] [r] pos) (decide (k ∈ ns)) :=
  it_cmp m (VI.mono k) h1 h2 (fun s E v1 v2 _ x1 x2 => by
    obtain ⟨t, rfl⟩ := x1
    obtain ⟨b, rfl, ws, hb, pb⟩ := x2
    have hi := paired_ints pb
    refine PySem.SeqAt.in_listAt (fun y => match y with | .int a _ => a == k | _ => false) hb (fun y hy => ?_) ⟨keeps_refl s, ?_⟩
    · obtain ⟨n, u, rfl⟩ := IntsAre.all hi y (by simpa using hy)
      exact PySem.SeqAt.EqAt.int_int n u k t
    · show Value.bool _ = Value.bool _
      rw [← any_ints hi]; simp) hm
theorem it_is_none (m : Mono P) (h1 : Ev prog w A env P l VN) (h2 : Ev prog w A env P r VN) : It prog w A env P (.Compare l [.Is] [r] pos) true :=
  it_cmp m VN.mono h1 h2 (fun s E v1 v2 _ x1 x2 => by
    cases x1; cases x2
    exact wpAny_is_plain rfl ⟨keeps_refl s, rfl⟩) (bim rfl rfl)
theorem it_isnt_none {k : Int} (m : Mono P) (h1 : Ev prog w A env P l (VI k)) (h2 : Ev prog w A env P r VN) : It prog w A env P (.Compare l [.Is] [r] pos) false :=
  it_cmp m (VI.mono k) h1 h2 (fun s E v1 v2 _ x1 x2 => by
    obtain ⟨t, rfl⟩ := x1; cases x2
    exact wpAny_is_plain rfl ⟨keeps_refl s, rfl⟩) (bim rfl rfl)
theorem it_isnot_type {T : String} (m : Mono P) (h1 : Ev prog w A env P l (VX (.type T))) (h2 : Ev prog w A env P r (VX (.type T))) : It prog w A env P (.Compare l [.IsNot] [r] pos) false :=
  it_cmp m (VX.mono _) h1 h2 (fun s E v1 v2 _ x1 x2 => by
    cases x1; cases x2
    exact isnot_type_same ⟨keeps_refl s, rfl⟩) (bim rfl rfl)
theorem it_not {b : Bool} (h : It prog w A env P e b) : It prog w A env P (.UnaryOp .Not e pos) (!b) := fun s E wh hw hP =>
  isTrue_not (wpAny_mono (h s E _ rfl hP) (fun c s' y => ⟨y.1, by rw [y.2]⟩) fun _ _ x => x)
theorem it_or_nil : It prog w A env P (.BoolOp .Or [] pos) false := fun s E wh hw hP => isTrue_or_nil ⟨keeps_refl s, rfl⟩
theorem it_or {rest : List Expr} {a b : Bool} (m : Mono P) (h1 : It prog w A env P e a) (h2 : a = false → ∀ (s : Shared) (E : Value → Shared → Prop) wh, P s.heap → wpAny (model prog w) A (isTrue (.BoolOp .Or rest pos) env wh) (fun c s' => Keeps s s' ∧ c = b) E s) :
    ∀ (s : Shared) (E : Value → Shared → Prop) wh, P s.heap → wpAny (model prog w) A (isTrue (.BoolOp .Or (e :: rest) pos) env wh) (fun c s' => Keeps s s' ∧ c = (a || b)) E s := fun s E wh hP =>
  isTrue_or (wpAny_mono (h1 s E _ rfl hP) (fun c s' y => by
    obtain ⟨k, rfl⟩ := y
    cases c with
    | true => exact ⟨k, rfl⟩
    | false => exact wpAny_mono (h2 rfl s' E wh (m _ _ (keeps_ext k) hP)) (fun _ _ z => ⟨keeps_trans k z.1, z.2⟩) fun _ _ x => x) fun _ _ x => x)
theorem it_or2 {e1 e2 : Expr} {a b : Bool} (m : Mono P) (h1 : It prog w A env P e1 a) (h2 : a = false → It prog w A env P e2 b) : It prog w A env P (.BoolOp .Or [e1, e2] pos) (a || b) := fun s E wh hw hP => by
  have := it_or (pos := pos) (b := (b || false)) m h1 (fun q => it_or m (h2 q) (b := false) fun _ s E wh _ => isTrue_or_nil ⟨keeps_refl s, rfl⟩) s E wh hP
  simpa using this
/-- a ≤ b ≤ c -/
theorem it_le_le {c : Expr} {x y z : Int} (m : Mono P) (h1 : Ev prog w A env P e (VI x)) (h2 : Ev prog w A env P l (VI y)) (h3 : Ev prog w A env P c (VI z)) (hm : lastMarks [.LtE, .LtE] [l, c] = false := by rfl) :
    It prog w A env P (.Compare e [.LtE, .LtE] [l, c] pos) (decide (x ≤ y) && decide (y ≤ z)) := fun s E wh hw hP =>
  isTrue_chain (h1.use hP fun v1 s1 k1 x1 => test_link (h2.use (m _ _ (keeps_ext k1) hP) fun v2 s2 k2 x2 => by
    obtain ⟨t1, rfl⟩ := x1; obtain ⟨t2, rfl⟩ := x2
    refine le_int (wpAny_truthy_bool ?_)
    by_cases q : x ≤ y
    · rw [if_pos (by simpa using q)]
      refine test_last (h3.use (m _ _ (keeps_ext (keeps_trans k1 k2)) hP) fun v3 s3 k3 x3 => ?_)
      obtain ⟨t3, rfl⟩ := x3
      exact le_int (wpAny_truthy_bool ⟨keeps_trans (keeps_trans k1 k2) k3, by simp [q]⟩)
    · rw [if_neg (by simpa using q)]
      exact ⟨keeps_trans k1 k2, by simp [q]⟩)) hm
theorem it_val {b : Bool} (h : Ev prog w A env P e (VB b)) (he : ∀ wh, isTrue e env wh = (do let v ← wh; standAt e.pos; holding [v] (truthy v)) := by intro _; rfl) : It prog w A env P e b := fun s E wh hw hP => by
  subst hw
  exact isTrue_plain (h.use hP fun v s1 k1 x1 => by cases x1; exact wpAny_truthy_bool ⟨k1, rfl⟩) (he _)
theorem ev_neg {k : Int} (h : Ev prog w A env P e (VI k)) : Ev prog w A env P (.UnaryOp .USub e pos) (VI (-k)) := fun s E hP =>
  UnaryOp_ (h.use hP fun v s1 k1 x1 => by obtain ⟨t, rfl⟩ := x1; exact neg_int ⟨keeps_trans k1 (keeps_toks _ _), _, rfl⟩)
end
end Mine

namespace Mine

/-! ### statements -/
def Kt (s s' : Shared) : Prop := ∃ h' tk, s' = { s with heap := h', toks := tk }
theorem Kt.rfl' (s : Shared) : Kt s s := ⟨s.heap, s.toks, by cases s; rfl⟩
theorem Kt.mk' (s : Shared) (h : Heap) (t : Nat) : Kt s { s with heap := h, toks := t } := ⟨h, t, rfl⟩
theorem Kt.trans' {a b c : Shared} (x : Kt a b) (y : Kt b c) : Kt a c := by
  obtain ⟨h1, t1, rfl⟩ := x
  obtain ⟨h2, t2, rfl⟩ := y
  exact ⟨h2, t2, rfl⟩
theorem Kt.of {a b : Shared} (x : Keeps a b) : Kt a b := let ⟨h, t, e, _⟩ := x; ⟨h, t, e⟩

def Tr (prog : Program) (w : World) (A : Around) (P : Heap → Prop) (t : Sem Flow) (Q : Flow → Heap → Prop) : Prop :=
  ∀ (s : Shared) (E : Value → Shared → Prop), P s.heap → wpAny (model prog w) A t (fun f s' => Kt s s' ∧ Q f s'.heap) E s
def Nx (R : Heap → Prop) (Q : Flow → Heap → Prop) : Flow → Heap → Prop := fun f h => match f with | .next => R h | f => Q f h

theorem ext_mono (h0 : Heap) : Mono (Ext h0) := fun _ _ e x => x.trans' e

def Wr (env : Env) (h : Heap) : Prop := (∃ m, h.Ns env.locals m) ∧ ∀ x c, env.cells.lookup x = some c → ∃ v, h.IsCell c v
theorem Wr.ext {env : Env} {h h' : Heap} (x : Wr env h) (e : Ext h h') : Wr env h' := ⟨let ⟨m, k⟩ := x.1; ⟨m, k.keeps e⟩, fun y c q => let ⟨v, k⟩ := x.2 y c q; ⟨v, k.keeps e⟩⟩
def Stored (env : Env) (x : Str) (v : Value) (h h' : Heap) : Prop :=
  (env.kindOf x = some .local ∧ Heap.SameBut env.locals h h' ∧ ∀ m, h.Ns env.locals m → h'.Ns env.locals (fun y => if y = x then some v else m y)) ∨
  (env.kindOf x = some .cell ∧ ∃ c, env.cells.lookup x = some c ∧ Heap.SameBut c h h' ∧ h'.IsCell c (some v))
def Sto (env : Env) (x : Str) : Prop := env.scope.kind = .function ∧ (env.kindOf x = some .local ∨ (env.kindOf x = some .cell ∧ ∃ c, env.cells.lookup x = some c))

theorem ns_unique {h : Heap} {a : Addr} {m m' : Str → Option Value} (x : h.Ns a m) (y : h.Ns a m') : m = m' := by
  obtain ⟨o, es, ep, e, d, k, f⟩ := x
  obtain ⟨o', es', ep', e', d', k', f'⟩ := y
  rw [e] at e'; cases e'
  rw [d] at d'; cases d'
  funext n
  rw [← f n, ← f' n]

section
variable {prog : Program} {w : World} {A : Around} {env : Env} {P P' R : Heap → Prop} {Q Q' : Flow → Heap → Prop} {e : Expr} {pos p : Pos}

theorem Tr.conseq {t : Sem Flow} (h : Tr prog w A P t Q) (hP : ∀ h, P' h → P h) (hQ : ∀ f h, Q f h → Q' f h) : Tr prog w A P' t Q' := fun s E p =>
  wpAny_mono (h s E (hP _ p)) (fun f s' y => ⟨y.1, hQ _ _ y.2⟩) fun _ _ x => x
theorem Tr.pre {t : Sem Flow} (hP : ∀ h, P' h → P h) (h : Tr prog w A P t Q) : Tr prog w A P' t Q := h.conseq hP fun _ _ x => x
theorem Tr.post {t : Sem Flow} (hQ : ∀ f h, Q f h → Q' f h) (h : Tr prog w A P t Q) : Tr prog w A P t Q' := h.conseq (fun _ x => x) hQ
theorem Tr.ex {α : Type} {I : α → Heap → Prop} {t : Sem Flow} (h : ∀ x, Tr prog w A (I x) t Q) : Tr prog w A (fun h => ∃ x, I x h) t Q := fun s E ⟨x, p⟩ => h x s E p
theorem Tr.exP {φ : Prop} {I : φ → Heap → Prop} {t : Sem Flow} (h : ∀ x, Tr prog w A (I x) t Q) : Tr prog w A (fun h => ∃ x, I x h) t Q := fun s E ⟨x, p⟩ => h x s E p
theorem Tr.of {φ : Prop} {t : Sem Flow} (h : φ → Tr prog w A P t Q) : Tr prog w A (fun h => φ ∧ P h) t Q := fun s E p => h p.1 s E p.2

theorem tr_cons {st : Stmt} {rest : List Stmt} (h1 : Tr prog w A P (exec st env) (Nx R Q)) (h2 : Tr prog w A R (execs rest env) Q) : Tr prog w A P (execs (st :: rest) env) Q := fun s E p =>
  wpAny_execs_cons (wpAny_mono (h1 s E p) (fun f s1 y => by
    obtain ⟨k, q⟩ := y
    cases f with
    | next => exact wpAny_mono (h2 s1 E q) (fun f' s2 z => ⟨k.trans' z.1, z.2⟩) fun _ _ x => x
    | cont => exact ⟨k, q⟩
    | brk => exact ⟨k, q⟩
    | ret v => exact ⟨k, q⟩) fun _ _ x => x)
theorem tr_nil (h : ∀ h, P h → Q .next h) : Tr prog w A P (execs [] env) Q := fun s E p => wpAny_execs_nil ⟨Kt.rfl' s, h _ p⟩

theorem store_ok {x : Str} {v : Value} {M : Model} {s : Shared} {E : Value → Shared → Prop} (hx : Sto env x) (W : Wr env s.heap) :
    wpAny M A (storeName env x v) (fun _ s' => Kt s s' ∧ Stored env x v s.heap s'.heap) E s := by
  obtain ⟨hk, hx | ⟨hx, c, hc⟩⟩ := hx
  · obtain ⟨m, hm⟩ := W.1
    refine wpAny_storeName_local hx hm (fun h' hn hs => ⟨Kt.mk' s _ _, .inl ⟨hx, hs, fun m' hm' => ?_⟩⟩) (by rw [hk]; rfl)
    rw [ns_unique hm' hm]; exact hn
  · obtain ⟨v₀, hv⟩ := W.2 x c hc
    exact wpAny_storeName_cell hk hx hc hv fun h' hv' hs => ⟨Kt.mk' s _ _, .inr ⟨hx, c, hc, hs, hv'⟩⟩

theorem tr_assign {x : Str} {pos' : Pos} {value : Expr} {V : Heap → Heap → Value → Prop} (hx : Sto env x) (hW : ∀ h, P h → Wr env h) (h : ∀ h0, P h0 → Ev prog w A env (Ext h0) value (V h0))
    (hR : ∀ h0 h1 v h', P h0 → Ext h0 h1 → V h0 h1 v → Stored env x v h1 h' → R h') (hs : swapsWith value (some (.Name x pos')) pos.line env = pure false := by rfl) :
    Tr prog w A P (exec (.Assign [.Name x pos'] value pos) env) (Nx R Q) := fun s E p =>
  wpAny_Assign_Name ((h _ p).use (Ext.rfl' _) fun v s1 k1 x1 => wpAny_mono (store_ok hx ((hW _ p).ext (keeps_ext k1))) (fun _ s2 y => ⟨(Kt.of k1).trans' y.1, hR _ _ _ _ p (keeps_ext k1) x1 y.2⟩) fun _ _ x => x) hs
theorem tr_if {test : Expr} {body orelse : List Stmt} {b : Bool} (mP : Mono P) (h : ∀ h0, P h0 → It prog w A env (Ext h0) test b) (ht : b = true → Tr prog w A P (execs body env) Q) (hf : b = false → Tr prog w A P (execs orelse env) Q) :
    Tr prog w A P (exec (.If test body orelse pos) env) Q := fun s E p =>
  wpAny_If (wpAny_mono (h _ p s E _ rfl (Ext.rfl' _)) (fun c s1 y => by
    obtain ⟨k, rfl⟩ := y
    cases c with
    | true => exact wpAny_mono (ht rfl s1 E (mP _ _ (keeps_ext k) p)) (fun f s2 z => ⟨(Kt.of k).trans' z.1, z.2⟩) fun _ _ x => x
    | false => exact wpAny_mono (hf rfl s1 E (mP _ _ (keeps_ext k) p)) (fun f s2 z => ⟨(Kt.of k).trans' z.1, z.2⟩) fun _ _ x => x) fun _ _ x => x)
theorem tr_return {V : Heap → Heap → Value → Prop} (h : ∀ h0, P h0 → Ev prog w A env (Ext h0) e (V h0)) (hQ : ∀ h0 h v, P h0 → Ext h0 h → V h0 h v → Q (.ret v) h) :
    Tr prog w A P (exec (.Return (some e) pos) env) Q := fun s E p =>
  wpAny_Return_some ((h _ p).use (Ext.rfl' _) fun v s1 k1 x1 => ⟨Kt.of k1, hQ _ _ _ p (keeps_ext k1) x1⟩)
theorem tr_break (h : ∀ h, P h → Q .brk h) : Tr prog w A P (exec (.Break pos) env) Q := fun s E p => wpAny_Break ⟨Kt.rfl' s, h _ p⟩

theorem tr_while {α : Type} {test : Expr} {body orelse : List Stmt} (I : α → Heap → Prop) (μ : α → Nat) (b : α → Bool) (mI : ∀ x, Mono (I x))
    (hb : ∀ x h0, I x h0 → It prog w A env (Ext h0) test (b x))
    (hbody : ∀ x, b x = true → Tr prog w A (I x) (execs body env) (fun f h => match f with | .next | .cont => ∃ y, μ y < μ x ∧ I y h | .brk => Q .next h | .ret v => Q (.ret v) h))
    (helse : ∀ x, b x = false → Tr prog w A (I x) (execs orelse env) Q) (x₀ : α) : Tr prog w A (I x₀) (exec (.While test body orelse pos) env) Q := fun s E p => by
  refine wpAny_While (codeAny_whileLoop (fun n s' => Kt s s' ∧ ∃ x, n = μ x ∧ I x s'.heap) ?_ (μ x₀) ⟨Kt.rfl' s, x₀, rfl, p⟩)
  rintro n s' ⟨k, x, rfl, q⟩
  refine wpAny_mono (hb x _ q s' _ _ rfl (Ext.rfl' _)) (fun c s1 y => ?_) fun _ _ x => x
  obtain ⟨k1, rfl⟩ := y
  have q1 := mI _ _ _ (keeps_ext k1) q
  cases hc : b x with
  | true =>
    simp only [if_true]
    refine wpAny_mono (hbody x hc s1 _ q1) (fun f s2 z => ?_) fun _ _ x => x
    have kk := (k.trans' (Kt.of k1)).trans' z.1
    cases f with
    | next => obtain ⟨y, hy, hI⟩ := z.2; exact ⟨_, hy, kk, y, rfl, hI⟩
    | cont => obtain ⟨y, hy, hI⟩ := z.2; exact ⟨_, hy, kk, y, rfl, hI⟩
    | brk => exact ⟨kk, z.2⟩
    | ret v => exact ⟨kk, z.2⟩
  | false =>
    simp only [Bool.false_eq_true, if_false]
    exact wpAny_mono (helse x hc s1 _ q1) (fun f s2 z => ⟨(k.trans' (Kt.of k1)).trans' z.1, z.2⟩) fun _ _ x => x
end
end Mine

namespace Mine

/-! ### the symbolic state -/
inductive Fact where
  | il (a : Addr) (ns : List Int)
  | ml (a : Addr) (ns : List Int)
  | pl (a : Addr) (ns : List Int)
  | pll (a : Addr) (xss : List (List Int))
  | ob (a : Addr) (o : Obj)
def Fact.isOb : Fact → Bool
  | .ob _ _ => true
  | _ => false
def Fact.addr : Fact → Addr
  | .il a _ | .ml a _ | .pl a _ | .pll a _ | .ob a _ => a
/-- the rows of a list of rows: off the changing lists -/
abbrev InN (M : List Addr) (xs : List Int) : Heap → Value → Prop := VLP (fun a => a ∉ M) VI xs
theorem InN.mono (M : List Addr) (xs : List Int) : MonoV (InN M xs) := VLP.mono VI.mono _ xs
def Fact.holds (M : List Addr) : Fact → Heap → Prop
  | .il a ns, h => LA VI h a ns ∧ a ∉ M
  | .ml a ns, h => LA VI h a ns
  | .pl a ns, h => LP VI h a ns
  | .pll a xss, h => LP (InN M) h a xss
  | .ob a o, h => h.get? a = some o ∧ ∃ vs, o.data = .fields vs

theorem LP.get {α : Type} {R : α → Heap → Value → Prop} {h : Heap} {a : Addr} {xs : List α} (x : LP R h a xs) : ∃ o items n, h.get? a = some o ∧ o.data = .seq items n :=
  let ⟨vs, ⟨n, e⟩, _⟩ := x; ⟨_, _, n, e, rfl⟩
theorem LA.get {α : Type} {R : α → Heap → Value → Prop} {h : Heap} {a : Addr} {xs : List α} (x : LA R h a xs) : ∃ o items n, h.get? a = some o ∧ o.data = .seq items n :=
  let ⟨vs, ⟨o, e, _, n, d⟩, _⟩ := x; ⟨_, _, n, e, d⟩
theorem paired_mv {α β : Type} {F G : α → β → Prop} {l : List α} {r : List β} (p : Paired F l r) (h : ∀ a b, F a b → G a b) : Paired G l r := by
  induction p with
  | nil => exact .nil
  | cons k _ ih => exact .cons (h _ _ k) ih
theorem LP.mv {α : Type} {R R' : α → Heap → Value → Prop} {h h' : Heap} {a : Addr} {xs : List α} (x : LP R h a xs) (hg : ∀ o, h.get? a = some o → h'.get? a = some o) (hR : ∀ y v, R y h v → R' y h' v) : LP R' h' a xs :=
  let ⟨vs, p, i⟩ := x; ⟨vs, p.at hg, paired_mv i fun v y k => hR y v k⟩
theorem LA.mv {α : Type} {R R' : α → Heap → Value → Prop} {h h' : Heap} {a : Addr} {xs : List α} (x : LA R h a xs) (hg : ∀ o, h.get? a = some o → h'.get? a = some o) (hR : ∀ y v, R y h v → R' y h' v) : LA R' h' a xs :=
  let ⟨vs, ⟨o, e, r⟩, i⟩ := x; ⟨vs, ⟨o, hg _ e, r⟩, paired_mv i fun v y k => hR y v k⟩
theorem VLP.mv {α : Type} {R R' : α → Heap → Value → Prop} {N N' : Addr → Prop} {h h' : Heap} {v : Value} {xs : List α} (x : VLP N R xs h v)
    (hg : ∀ a o, N a → (∃ items n, o.data = .seq items n) → h.get? a = some o → h'.get? a = some o) (hN : ∀ a o, N a → h.get? a = some o → N' a) (hR : ∀ y v, R y h v → R' y h' v) : VLP N' R' xs h' v := by
  obtain ⟨a, rfl, p, n⟩ := x
  obtain ⟨o, it, k, e, d⟩ := p.get
  exact ⟨a, rfl, p.mv (fun o' e' => hg a o' n ⟨it, k, by rw [e] at e'; cases e'; exact d⟩ e') hR, hN a o n e⟩

theorem Fact.ext {M : List Addr} {f : Fact} {h h' : Heap} (x : f.holds M h) (e : Ext h h') : f.holds M h' := by
  cases f with
  | il a ns => exact ⟨x.1.ext VI.mono e, x.2⟩
  | ml a ns => exact LA.ext x VI.mono e
  | pl a ns => exact LP.ext x VI.mono e
  | pll a xss => exact LP.ext x (InN.mono M) e
  | ob a o => exact ⟨e _ _ x.1, x.2⟩
/-- a change at an address that is no list's and no object's of the facts -/
theorem Fact.off {M : List Addr} {f : Fact} {h h' : Heap} {z : Addr} (x : f.holds M h) (hs : Heap.ExtBut z h h') (hz : ∀ o, h.get? z = some o → (∀ items n, o.data ≠ .seq items n) ∧ ((∃ vs, o.data = .fields vs) → f.isOb = true → f.addr ≠ z)) : f.holds M h' := by
  have st : ∀ a o, (∃ items n, o.data = .seq items n) → h.get? a = some o → h'.get? a = some o := fun a o ⟨it, n, d⟩ e => by
    refine hs a o ?_ e
    rintro rfl
    exact (hz o e).1 it n d
  have sl : ∀ a ns, LP VI h a ns → LP VI h' a ns := fun a ns p => by
    obtain ⟨o, it, k, e, d⟩ := p.get
    exact p.mv (fun o' e' => st a o' ⟨it, k, by rw [e] at e'; cases e'; exact d⟩ e') fun y v q => q
  cases f with
  | il a ns =>
    obtain ⟨o, it, k, e, d⟩ := x.1.get
    exact ⟨x.1.mv (fun o' e' => st a o' ⟨it, k, by rw [e] at e'; cases e'; exact d⟩ e') fun y v q => q, x.2⟩
  | ml a ns =>
    obtain ⟨o, it, k, e, d⟩ := LA.get x
    exact LA.mv x (fun o' e' => st a o' ⟨it, k, by rw [e] at e'; cases e'; exact d⟩ e') fun y v q => q
  | pl a ns => exact sl a ns x
  | pll a xss =>
    have p : LP (InN M) h a xss := x
    obtain ⟨o, it, k, e, d⟩ := p.get
    exact p.mv (fun o' e' => st a o' ⟨it, k, by rw [e] at e'; cases e'; exact d⟩ e') fun y v q => q.mv (fun a o _ d e => st a o d e) (fun a o n _ => n) fun _ _ q => q
  | ob a o =>
    obtain ⟨e, d⟩ := x
    refine ⟨hs a o ?_ e, d⟩
    intro q
    subst q
    exact (hz o e).2 d rfl rfl
/-- a change at a changing list -/
theorem Fact.offL {M : List Addr} {f : Fact} {h h' : Heap} {z : Addr} (x : f.holds M h) (hs : Heap.ExtBut z h h') (hM : z ∈ M) (hz : ∃ o items n, h.get? z = some o ∧ o.data = .seq items n) (hne : f.isOb = false → f.addr ≠ z) : f.holds M h' := by
  obtain ⟨oz, itz, nz, ez, dz⟩ := hz
  have st : ∀ a o, a ≠ z → h.get? a = some o → h'.get? a = some o := fun a o n e => hs a o n e
  cases f with
  | il a ns => exact ⟨x.1.mv (fun o' e' => st a o' (hne rfl) e') fun y v q => q, x.2⟩
  | ml a ns => exact LA.mv x (fun o' e' => st a o' (hne rfl) e') fun y v q => q
  | pl a ns => exact LP.mv x (fun o' e' => st a o' (hne rfl) e') fun y v q => q
  | pll a xss => exact LP.mv x (fun o' e' => st a o' (hne rfl) e') fun y v q => VLP.mv q (fun a o n _ e => st a o (fun q => n (q ▸ hM)) e) (fun a o n _ => n) fun _ _ q => q
  | ob a o =>
    refine ⟨st _ _ ?_ x.1, x.2⟩
    rintro rfl
    obtain ⟨e, vs, d⟩ := x
    rw [ez] at e; cases e
    rw [dz] at d; cases d
/-- one more changing list -/
theorem Fact.more {M : List Addr} {f : Fact} {h h0 : Heap} {z : Addr} (x : f.holds M h0) (e : Ext h0 h) (hz : h0.get? z = none) : f.holds (z :: M) h := by
  have nw : ∀ a o, a ∉ M → h0.get? a = some o → a ∉ z :: M := fun a o n e q => by
    cases q with
    | head => rw [hz] at e; cases e
    | tail _ q => exact n q
  cases f with
  | il a ns =>
    obtain ⟨o, it, k, e', d⟩ := x.1.get
    exact ⟨x.1.ext VI.mono e, nw a o x.2 e'⟩
  | ml a ns => exact LA.ext x VI.mono e
  | pl a ns => exact LP.ext x VI.mono e
  | pll a xss => exact LP.mv x (fun o' e' => e _ _ e') fun y v q => (VLP.mv q (fun a o _ _ e => e) (fun a o n e => nw a o n e) fun _ _ q => q : InN (z :: M) y h0 v) |> InN.mono _ _ _ _ _ e
  | ob a o => exact ⟨e _ _ x.1, x.2⟩
theorem Fact.less {M M' : List Addr} {f : Fact} {h : Heap} (x : f.holds M h) (hM : ∀ z ∈ M', z ∈ M) : f.holds M' h := by
  cases f with
  | il a ns => exact ⟨x.1, fun q => x.2 (hM _ q)⟩
  | ml a ns => exact x
  | pl a ns => exact x
  | pll a xss => exact LP.mv x (fun o' e' => e') fun y v q => VLP.mv q (fun a o _ _ e => e) (fun a o n _ k => n (hM _ k)) fun _ _ q => q
  | ob a o => exact x
theorem Fact.alive {M : List Addr} {f : Fact} {h : Heap} (x : f.holds M h) : ∃ o, h.get? f.addr = some o := by
  cases f with
  | il a ns => obtain ⟨o, _, _, e, _⟩ := x.1.get; exact ⟨o, e⟩
  | ml a ns => obtain ⟨o, _, _, e, _⟩ := LA.get x; exact ⟨o, e⟩
  | pl a ns => obtain ⟨o, _, _, e, _⟩ := LP.get x; exact ⟨o, e⟩
  | pll a xss => obtain ⟨o, _, _, e, _⟩ := LP.get x; exact ⟨o, e⟩
  | ob a o => exact ⟨o, x.1⟩

/-- the frame's own places are new -/
structure EnvG (g : Heap) (env : Env) : Prop where
  loc : g.get? env.locals = none
  cel : ∀ x c, env.cells.lookup x = some c → g.get? c = none ∧ c ≠ env.locals
  inj : ∀ x y c, env.cells.lookup x = some c → env.cells.lookup y = some c → x = y

structure SS (g : Heap) (env : Env) (M : List Addr) (vl : List (Str × VD)) (fs : List Fact) (h : Heap) : Prop where
  st : St g env vl h
  wr : Wr env h
  eg : EnvG g env
  mo : ∀ a ∈ M, g.get? a = none ∧ ∃ o, h.get? a = some o
  fs : ∀ f ∈ fs, f.holds M h

variable {g h h' h0 h1 : Heap} {env : Env} {M M' : List Addr} {vl vl' : List (Str × VD)} {fs fs' : List Fact} {x : Str} {v : Value} {d : VD}
theorem SS.ext (S : SS g env M vl fs h) (e : Ext h h') : SS g env M vl fs h' := ⟨S.st.ext e, S.wr.ext e, S.eg, fun a k => ⟨(S.mo a k).1, let ⟨o, q⟩ := (S.mo a k).2; ⟨o, e _ _ q⟩⟩, fun f hf => Fact.ext (S.fs f hf) e⟩
theorem SS.mono : Mono (SS g env M vl fs) := fun _ _ e S => S.ext e
theorem SS.weak (S : SS g env M vl fs h) (hv : ∀ p ∈ vl', vl.lookup p.1 = some p.2) (hf : ∀ f ∈ fs', f ∈ fs) : SS g env M vl' fs' h := ⟨S.st.weak hv, S.wr, S.eg, S.mo, fun f k => S.fs f (hf f k)⟩
theorem SS.less (S : SS g env M vl fs h) (hM : ∀ z ∈ M', z ∈ M) : SS g env M' vl fs h := ⟨S.st, S.wr, S.eg, fun a k => S.mo a (hM a k), fun f k => Fact.less (S.fs f k) hM⟩


theorem keep_but {z : Addr} (K : Ext g h) (hz : g.get? z = none) (hs : Heap.ExtBut z h h') : Ext g h' := fun b o e => by
  refine hs b o ?_ (K b o e)
  rintro rfl
  rw [hz] at e; cases e
theorem St.upd (S : St g env vl h) (W : Wr env h) (E : EnvG g env) (hx : Stored env x v h h') (hd : d.is v) : St g env ((x, d) :: vl) h' ∧ Wr env h' := by
  rcases hx with ⟨hk, hs, hm⟩ | ⟨hk, c, hc, hs, hv⟩
  · obtain ⟨m, hmm⟩ := W.1
    have hn := hm m hmm
    have cells : ∀ y c v, env.cells.lookup y = some c → h.IsCell c v → h'.IsCell c v := fun y c v e k => k.sameBut hs (E.cel y c e).2
    refine ⟨⟨keep_but S.keep E.loc hs.extBut, fun y d' e => ?_⟩, ⟨_, hn⟩, fun y c e => let ⟨v, k⟩ := W.2 y c e; ⟨v, cells y c v e k⟩⟩
    rw [List.lookup_cons] at e
    by_cases q : y = x
    · subst q
      simp only [beq_self_eq_true] at e
      cases e
      exact ⟨v, .inl ⟨hk, _, hn, by simp⟩, hd⟩
    · have qb : (y == x) = false := beq_eq_false_iff_ne.mpr q
      simp only [qb] at e
      obtain ⟨u, k, a⟩ := S.vars y d' e
      refine ⟨u, ?_, a⟩
      rcases k with ⟨k1, m1, n1, e1⟩ | ⟨k1, c, c1, v1⟩
      · rw [ns_unique n1 hmm] at e1
        exact .inl ⟨k1, _, hn, by simp [q, e1]⟩
      · exact .inr ⟨k1, c, c1, cells y c _ c1 v1⟩
  · have cE := E.cel x c hc
    have ns : ∀ m, h.Ns env.locals m → h'.Ns env.locals m := fun m k => k.sameBut hs (Ne.symm cE.2)
    have cells : ∀ y c' v, y ≠ x → env.cells.lookup y = some c' → h.IsCell c' v → h'.IsCell c' v := fun y c' v n e k => k.sameBut hs fun q => n (E.inj y x c' e (q ▸ hc))
    refine ⟨⟨keep_but S.keep cE.1 hs.extBut, fun y d' e => ?_⟩, let ⟨m, k⟩ := W.1; ⟨m, ns m k⟩, fun y c' e => ?_⟩
    · rw [List.lookup_cons] at e
      by_cases q : y = x
      · subst q
        simp only [beq_self_eq_true] at e
        cases e
        exact ⟨v, .inr ⟨.inl hk, c, hc, hv⟩, hd⟩
      · have qb : (y == x) = false := beq_eq_false_iff_ne.mpr q
        simp only [qb] at e
        obtain ⟨u, k, a⟩ := S.vars y d' e
        refine ⟨u, ?_, a⟩
        rcases k with ⟨k1, m1, n1, e1⟩ | ⟨k1, c', c1, v1⟩
        · exact .inl ⟨k1, _, ns _ n1, e1⟩
        · exact .inr ⟨k1, c', c1, cells y c' _ q c1 v1⟩
    · by_cases q : y = x
      · subst q
        rw [hc] at e; cases e
        exact ⟨_, hv⟩
      · obtain ⟨v', k⟩ := W.2 y c' e
        exact ⟨v', cells y c' v' q e k⟩

theorem SS.store (S : SS g env M vl fs h) (hx : Stored env x v h h') (hd : d.is v) : SS g env M ((x, d) :: vl) fs h' := by
  obtain ⟨a, b⟩ := S.st.upd S.wr S.eg hx hd
  refine ⟨a, b, S.eg, fun y hy => ⟨(S.mo y hy).1, ?_⟩, fun f hf => ?_⟩
  · obtain ⟨o, q⟩ := (S.mo y hy).2
    rcases hx with ⟨hk, hs, hm⟩ | ⟨hk, c, hc, hs, hv⟩
    · by_cases e : y = env.locals
      · obtain ⟨m, o', _, _, e', _⟩ := b.1
        exact ⟨o', e ▸ e'⟩
      · exact ⟨o, (hs.2 y e).trans q⟩
    · by_cases e : y = c
      · obtain ⟨o', e', _⟩ := hv
        exact ⟨o', e ▸ e'⟩
      · exact ⟨o, (hs.2 y e).trans q⟩
  rcases hx with ⟨hk, hs, hm⟩ | ⟨hk, c, hc, hs, hv⟩
  · obtain ⟨m, o, es, ep, e, dd, _⟩ := S.wr.1
    refine Fact.off (S.fs f hf) hs.extBut fun o' e' => ?_
    rw [e] at e'; cases e'
    exact ⟨fun _ _ q => (by rw [dd] at q; cases q), fun ⟨_, q⟩ => (by rw [dd] at q; cases q)⟩
  · obtain ⟨v', o, e, dd⟩ := S.wr.2 x c hc
    refine Fact.off (S.fs f hf) hs.extBut fun o' e' => ?_
    rw [e] at e'; cases e'
    exact ⟨fun _ _ q => (by rw [dd] at q; cases q), fun ⟨_, q⟩ => (by rw [dd] at q; cases q)⟩

theorem Var.off {y : Str} {u : Value} {z : Addr} (k : Var env h y u) (hs : Heap.ExtBut z h h') (hz : ∀ o, h.get? z = some o → (∀ es ep, o.data ≠ .dict es ep) ∧ ∀ v, o.data ≠ .cell v) : Var env h' y u := by
  rcases k with ⟨k1, m1, n1, e1⟩ | ⟨k1, c, c1, v1⟩
  · obtain ⟨o, es, ep, e, dd, r⟩ := n1
    refine .inl ⟨k1, m1, ⟨o, es, ep, hs _ _ ?_ e, dd, r⟩, e1⟩
    intro q; rw [q] at e
    exact (hz o e).1 _ _ dd
  · obtain ⟨o, e, dd⟩ := v1
    refine .inr ⟨k1, c, c1, o, hs _ _ ?_ e, dd⟩
    intro q; rw [q] at e
    exact (hz o e).2 _ dd
theorem Wr.off {z : Addr} (W : Wr env h) (hs : Heap.ExtBut z h h') (hz : ∀ o, h.get? z = some o → (∀ es ep, o.data ≠ .dict es ep) ∧ ∀ v, o.data ≠ .cell v) : Wr env h' := by
  refine ⟨?_, fun y c e => ?_⟩
  · obtain ⟨m, o, es, ep, e, dd, r⟩ := W.1
    refine ⟨m, o, es, ep, hs _ _ ?_ e, dd, r⟩
    intro q; rw [q] at e
    exact (hz o e).1 _ _ dd
  · obtain ⟨v', o, e, dd⟩ := W.2 y c e
    refine ⟨v', o, hs _ _ ?_ e, dd⟩
    intro q; rw [q] at e
    exact (hz o e).2 _ dd
theorem SS.step {z : Addr} (S : SS g env M vl fs h) (hg : g.get? z = none) (hs : Heap.ExtBut z h h') (hzM : z ∈ M → ∃ o, h'.get? z = some o) (hz : ∀ o, h.get? z = some o → (∀ es ep, o.data ≠ .dict es ep) ∧ ∀ v, o.data ≠ .cell v)
    (hk : ∀ k ∈ fs', k.holds M h') : SS g env M vl fs' h' :=
  ⟨⟨keep_but S.st.keep hg hs, fun y d e => let ⟨u, k, a⟩ := S.st.vars y d e; ⟨u, k.off hs hz, a⟩⟩, S.wr.off hs hz, S.eg, fun y hy => ⟨(S.mo y hy).1, by
    obtain ⟨o, q⟩ := (S.mo y hy).2
    by_cases e : y = z
    · subst e; exact hzM hy
    · exact ⟨o, hs y o e q⟩⟩, hk⟩
/-- a changing list changes -/
theorem SS.change {z : Addr} {f' : Fact} (S : SS g env M vl fs h) (hM : z ∈ M) (hz : ∃ o items n, h.get? z = some o ∧ o.data = .seq items n) (hs : Heap.ExtBut z h h') (hf : f'.holds M h') (ha : f'.addr = z)
    (hk : ∀ k ∈ fs', k = f' ∨ (k ∈ fs ∧ (k.isOb = false → k.addr ≠ z))) : SS g env M vl fs' h' := by
  refine S.step (S.mo z hM).1 hs (fun _ => ?_) (fun o e => ?_) fun k q => ?_
  · obtain ⟨o', e'⟩ := Fact.alive hf
    exact ⟨o', by rw [← ha]; exact e'⟩
  · obtain ⟨o', it, n, e', dd⟩ := hz
    rw [e'] at e; cases e
    exact ⟨fun _ _ q => (by rw [dd] at q; cases q), fun _ q => (by rw [dd] at q; cases q)⟩
  · rcases hk k q with rfl | ⟨a, b⟩
    · exact hf
    · exact Fact.offL (S.fs k a) hs hM hz b
/-- an iterator turns -/
theorem SS.turn {z : Addr} (S : SS g env M vl fs h) (hg : g.get? z = none) (hob : ∃ o vs, h.get? z = some o ∧ o.data = .fields vs) (hs : Heap.ExtBut z h h')
    (hk : ∀ k ∈ fs', k.holds M h' ∨ (k ∈ fs ∧ (k.isOb = true → k.addr ≠ z))) (hzM : z ∉ M) : SS g env M vl fs' h' := by
  obtain ⟨o, vs, e0, dd⟩ := hob
  refine S.step hg hs (fun q => absurd q hzM) (fun o e => ?_) fun k q => ?_
  · rw [e0] at e; cases e
    exact ⟨fun _ _ q => (by rw [dd] at q; cases q), fun _ q => (by rw [dd] at q; cases q)⟩
  · rcases hk k q with a | ⟨a, b⟩
    · exact a
    · refine Fact.off (S.fs k a) hs fun o'' e => ?_
      rw [e0] at e; cases e
      exact ⟨fun _ _ q => (by rw [dd] at q; cases q), fun _ => b⟩
theorem SS.alive (S : SS g env M vl fs h) {f : Fact} (hf : f ∈ fs) : ∃ o, h.get? f.addr = some o := Fact.alive (S.fs f hf)
theorem SS.offM (S : SS g env M vl fs h) {z : Addr} (hz : h.get? z = none) : z ∉ M := fun q => by
  obtain ⟨o, e⟩ := (S.mo z q).2
  rw [hz] at e; cases e
theorem SS.ne (S : SS g env M vl fs h) {f : Fact} (hf : f ∈ fs) {z : Addr} (hz : h.get? z = none) : f.addr ≠ z := fun q => by
  obtain ⟨o, e⟩ := S.alive hf
  rw [q, hz] at e; cases e
/-- one more fact -/
theorem SS.fact (S : SS g env M vl fs h) {f : Fact} (hf : f.holds M h) : SS g env M vl (f :: fs) h := ⟨S.st, S.wr, S.eg, S.mo, fun k hk => by
  cases hk with
  | head => exact hf
  | tail _ hk => exact S.fs k hk⟩
/-- one more changing list -/
theorem SS.more {z : Addr} (S : SS g env M vl fs h0) (e : Ext h0 h) (hz : h0.get? z = none) (ho : ∃ o, h.get? z = some o) : SS g env (z :: M) vl fs h :=
  ⟨S.st.ext e, S.wr.ext e, S.eg, fun a k => by
    cases k with
    | head => exact ⟨S.st.keep.none hz, ho⟩
    | tail _ k => exact ⟨(S.mo a k).1, let ⟨o, q⟩ := (S.mo a k).2; ⟨o, e _ _ q⟩⟩, fun f hf => Fact.more (S.fs f hf) e hz⟩
/-- a word of a name is weakened -/
theorem SS.val {i : Int} {t : Tok} (S : SS g env M ((x, d) :: vl) fs h) (hd : ∀ v, d.is v → VD.is (.int i) v) : SS g env M ((x, .int i) :: vl) fs h := by
  refine ⟨⟨S.st.keep, fun y d' e => ?_⟩, S.wr, S.eg, S.mo, S.fs⟩
  rw [List.lookup_cons] at e
  cases q : y == x with
  | true =>
    rw [q] at e; cases e
    obtain ⟨v, k, a⟩ := S.st.vars y d (by rw [List.lookup_cons, q])
    exact ⟨v, k, hd v a⟩
  | false =>
    rw [q] at e
    exact S.st.vars y d' (by rw [List.lookup_cons, q]; exact e)
end Mine

namespace Mine

section
variable {prog : Program} {w : World} {A : Around} {env : Env} {g h0 : Heap} {M : List Addr} {vl : List (Str × VD)} {fs : List Fact} {pos pos' p : Pos} {x : Str} {Q : Flow → Heap → Prop} {P : Heap → Prop}
  {e : Expr} {mg mb : Str → Option Value}

/-! ### names -/
theorem en_int {i : Int} (S : SS g env M vl fs h0) (hl : vl.lookup x = some (.int i) := by rfl) (hk : env.scope.kind = .function := by rfl) (hd : (x == ("__debug__" : Str)) = false := by decide)
    (hc : (x == ("__classdict__" : Str)) = false := by decide) : Ev prog w A env (Ext h0) (.Name x pos) (VI i) := ev_st_int (fun h e => S.st.ext e) hl hk hd hc
theorem en_ref {a : Addr} (S : SS g env M vl fs h0) (hl : vl.lookup x = some (.ref a) := by rfl) (hk : env.scope.kind = .function := by rfl) (hd : (x == ("__debug__" : Str)) = false := by decide)
    (hc : (x == ("__classdict__" : Str)) = false := by decide) : Ev prog w A env (Ext h0) (.Name x pos) (VX (.ref a)) := ev_st_ref (fun h e => S.st.ext e) hl hk hd hc
theorem en_none (S : SS g env M vl fs h0) (hl : vl.lookup x = some .none := by rfl) (hk : env.scope.kind = .function := by rfl) (hd : (x == ("__debug__" : Str)) = false := by decide)
    (hc : (x == ("__classdict__" : Str)) = false := by decide) : Ev prog w A env (Ext h0) (.Name x pos) VN := ev_st_none (fun h e => S.st.ext e) hl hk hd hc
theorem en_get {a : Addr} {V : Heap → Value → Prop} (S : SS g env M vl fs h0) (hV : ∀ h, Ext h0 h → V h (.ref a)) (hl : vl.lookup x = some (.ref a) := by rfl) (hk : env.scope.kind = .function := by rfl) (hd : (x == ("__debug__" : Str)) = false := by decide)
    (hc : (x == ("__classdict__" : Str)) = false := by decide) : Ev prog w A env (Ext h0) (.Name x pos) V := fun s E q =>
  (en_ref S hl hk hd hc).use q fun v s' k y => by cases y; exact ⟨k, hV _ (q.trans' (keeps_ext k))⟩
theorem en_il {a : Addr} {ns : List Int} (S : SS g env M vl fs h0) (hf : Fact.il a ns ∈ fs) (hl : vl.lookup x = some (.ref a) := by rfl) (hk : env.scope.kind = .function := by rfl) (hd : (x == ("__debug__" : Str)) = false := by decide)
    (hc : (x == ("__classdict__" : Str)) = false := by decide) : Ev prog w A env (Ext h0) (.Name x pos) (VIL ns) := en_get S (fun h e => ⟨a, rfl, (S.fs _ hf).1.ext VI.mono e⟩) hl hk hd hc
theorem en_ml {a : Addr} {ns : List Int} (S : SS g env M vl fs h0) (hf : Fact.ml a ns ∈ fs) (hl : vl.lookup x = some (.ref a) := by rfl) (hk : env.scope.kind = .function := by rfl) (hd : (x == ("__debug__" : Str)) = false := by decide)
    (hc : (x == ("__classdict__" : Str)) = false := by decide) : Ev prog w A env (Ext h0) (.Name x pos) (VIL ns) := en_get S (fun h e => ⟨a, rfl, LA.ext (S.fs _ hf) VI.mono e⟩) hl hk hd hc
theorem en_pl {a : Addr} {ns : List Int} (S : SS g env M vl fs h0) (hf : Fact.pl a ns ∈ fs) (hl : vl.lookup x = some (.ref a) := by rfl) (hk : env.scope.kind = .function := by rfl) (hd : (x == ("__debug__" : Str)) = false := by decide)
    (hc : (x == ("__classdict__" : Str)) = false := by decide) : Ev prog w A env (Ext h0) (.Name x pos) (VPL (fun b => b = a) ns) := en_get S (fun h e => ⟨a, rfl, LP.ext (S.fs _ hf) VI.mono e, rfl⟩) hl hk hd hc
theorem en_pll {a : Addr} {xss : List (List Int)} (S : SS g env M vl fs h0) (hf : Fact.pll a xss ∈ fs) (hl : vl.lookup x = some (.ref a) := by rfl) (hk : env.scope.kind = .function := by rfl) (hd : (x == ("__debug__" : Str)) = false := by decide)
    (hc : (x == ("__classdict__" : Str)) = false := by decide) : Ev prog w A env (Ext h0) (.Name x pos) (VLP (fun b => b = a) (InN M) xss) := en_get S (fun h e => ⟨a, rfl, LP.ext (S.fs _ hf) (InN.mono M) e, rfl⟩) hl hk hd hc
theorem en_glob {v : Value} (S : SS g env M vl fs h0) (G : Gl g mg mb) (hv : mg x = some v) (hx : env.kindOf x = some .globalImplicit := by rfl) (he : env.globals = mainGlobals := by rfl) (hk : env.scope.kind = .function := by rfl)
    (hd : (x == ("__debug__" : Str)) = false := by decide) : Ev prog w A env (Ext h0) (.Name x pos) (VX v) := ev_glob G (fun h e => S.st.keep.trans' e) hv hx he hk hd
theorem en_bi {v : Value} (S : SS g env M vl fs h0) (G : Gl g mg mb) (hm : mg x = none ∧ mb x = some v) (hx : env.kindOf x = some .globalImplicit := by rfl) (he : env.globals = mainGlobals := by rfl)
    (hb : env.builtins = builtinsNs := by rfl) (hk : env.scope.kind = .function := by rfl) (hd : (x == ("__debug__" : Str)) = false := by decide) : Ev prog w A env (Ext h0) (.Name x pos) (VX v) :=
  ev_builtin G (fun h e => S.st.keep.trans' e) hm.1 hm.2 hx he hb hk hd

/-! ### statements -/
theorem ts_int {i : Int} (hx : Sto env x) (h : ∀ h0, SS g env M vl fs h0 → Ev prog w A env (Ext h0) e (VI i)) (hs : swapsWith e (some (.Name x pos')) pos.line env = pure false := by rfl) :
    Tr prog w A (SS g env M vl fs) (exec (.Assign [.Name x pos'] e pos) env) (Nx (SS g env M ((x, .int i) :: vl) fs) Q) :=
  tr_assign hx (fun h S => S.wr) (V := fun _ => VI i) h (fun h0 h1 v h' S e' V st => (S.ext e').store st V) hs
abbrev Nw (h0 : Heap) : Addr → Prop := fun a => h0.get? a = none
theorem nw_ok {h0 : Heap} : ∀ h a, Ext h0 h → h.get? a = none → Nw h0 a := fun h a e q => e.none q
/-- a new list of ints, that may change -/
theorem ts_new {ns : List Int} (hx : Sto env x) (h : ∀ h0, SS g env M vl fs h0 → Ev prog w A env (Ext h0) e (VPL (Nw h0) ns)) (hs : swapsWith e (some (.Name x pos')) pos.line env = pure false := by rfl) :
    Tr prog w A (SS g env M vl fs) (exec (.Assign [.Name x pos'] e pos) env) (Nx (fun h => ∃ a, ((∀ f ∈ fs, f.addr ≠ a) ∧ a ∉ M) ∧ SS g env (a :: M) ((x, .ref a) :: vl) (.pl a ns :: fs) h) Q) :=
  tr_assign hx (fun h S => S.wr) (V := fun h0 => VPL (Nw h0) ns) h (fun h0 h1 v h' S e' V st => by
    obtain ⟨a, rfl, p, n⟩ := V
    exact ⟨a, ⟨fun f hf => S.ne hf n, S.offM n⟩, ((S.more e' n (let ⟨o, _, _, q, _⟩ := p.get; ⟨o, q⟩)).fact (f := .pl a ns) p).store st rfl⟩) hs

theorem ts_new2 {ns : List Int} (hx : Sto env x) (h : ∀ h0, SS g env M vl fs h0 → Ev prog w A env (Ext h0) e (VPL (Nw h0) ns)) (hs : swapsWith e (some (.Name x pos')) pos.line env = pure false := by rfl) :
    Tr prog w A (SS g env M vl fs) (exec (.Assign [.Name x pos'] e pos) env) (Nx (fun h => ∃ a, SS g env M ((x, .ref a) :: vl) (.pl a ns :: fs) h) Q) :=
  (ts_new (Q := Q) hx h hs).post fun f h q => by
    cases f with
    | next => obtain ⟨a, _, S⟩ := q; exact ⟨a, S.less fun z hz => .tail _ hz⟩
    | cont => exact q
    | brk => exact q
    | ret v => exact q

/-- the list y grows by one -/
theorem ts_append {α : Type} {R : α → Heap → Value → Prop} {xs : List α} {z : α} {a : Addr} {f f' : Fact} {fs' : List Fact} {y : Str} {yp apos epos : Pos} {elt : Expr}
    (hR : ∀ z, MonoV (R z)) (hM : a ∈ M) (hf : f ∈ fs) (hr : ∀ h, f.holds M h → LP R h a xs) (hr' : ∀ h, LP R h a (xs ++ [z]) → f'.holds M h) (ha : f'.addr = a)
    (hmv : ∀ h h' y v, Heap.ExtBut a h h' → R y h v → R y h' v) (hsz : xs.length ≤ 2 ^ 20)
    (h : ∀ h0, SS g env M vl fs h0 → Ev prog w A env (Ext h0) elt (R z)) (hk' : ∀ k ∈ fs', k = f' ∨ (k ∈ fs ∧ (k.isOb = false → k.addr ≠ a)))
    (hl : vl.lookup y = some (.ref a) := by rfl) (hk : env.scope.kind = .function := by rfl) (hd : (y == ("__debug__" : Str)) = false := by decide) (hc : (y == ("__classdict__" : Str)) = false := by decide)
    (hi : interactive env = false := by rfl) (hsw : swapsWith (.Call (.Attribute (.Name y yp) "append" apos) [elt] [] pos) none epos.line env = pure false := by rfl)
    (hbase : attributeBase (.Name y yp) "append" env (eval (.Name y yp) env) = eval (.Name y yp) env := by rfl)
    (hfew : ((backTo pos (starEach [elt] env)).all (fun x => !x.1) && (backToKw pos (keywordEach [] env)).all (fun x => x.1.isSome)
      && decide (([elt] : List Expr).length + ([] : List Keyword).length + (if ([] : List Keyword).isEmpty then 0 else 1) < 30)) = true := by rfl)
    (hline : (apos.endLine == pos.line) = true := by rfl)
    (htrees : backTo pos (starEach [elt] env) = [(false, eval elt env)] := by rfl) :
    Tr prog w A (SS g env M vl fs) (exec (.Expr (.Call (.Attribute (.Name y yp) "append" apos) [elt] [] pos) epos) env) (Nx (SS g env M vl fs') Q) := fun s E S => by
  refine wpAny_Expr (wpAny_Call_append hbase hfew hline htrees ((en_ref S hl hk hd hc).use (Ext.rfl' _) fun v s1 k1 y1 => ?_)) hi hsw
  cases y1
  have S1 := S.ext (keeps_ext k1)
  obtain ⟨vs, ⟨n, e⟩, i⟩ := hr _ (S1.fs _ hf)
  refine ⟨a, vs.toArray, rfl, ⟨_, n, e, rfl, rfl, rfl⟩, (h _ S1).use (Ext.rfl' _) fun v s2 k2 y2 => ?_⟩
  have S2 := S1.ext (keeps_ext k2)
  obtain ⟨vs2, pl2, i2⟩ := hr _ (S2.fs _ hf)
  have hlen := i2.length
  refine wpAny_list_append_plain pl2 (fun h' hl' hs' => ?_) (by rw [sizeLine_eq]; simp only [List.size_toArray]; omega)
  refine ⟨((Kt.of k1).trans' (Kt.of k2)).trans' (Kt.mk' s2 h' s2.toks), ?_⟩
  obtain ⟨n2, e2⟩ := pl2
  exact S2.change hM ⟨_, _, n2, e2, rfl⟩ hs'.extBut (hr' _ ⟨vs2 ++ [v], by simpa using hl', paired_append (paired_mv i2 fun v y q => hmv _ _ _ _ hs'.extBut q) (.cons (hmv _ _ _ _ hs'.extBut y2) .nil)⟩) ha hk'
theorem ts_append_int {ns : List Int} {z : Int} {a : Addr} {fs' : List Fact} {y : Str} {yp apos epos : Pos} {elt : Expr} (hM : a ∈ M) (hf : Fact.pl a ns ∈ fs) (hsz : ns.length ≤ 2 ^ 20)
    (h : ∀ h0, SS g env M vl fs h0 → Ev prog w A env (Ext h0) elt (VI z)) (hk' : ∀ k ∈ fs', k = .pl a (ns ++ [z]) ∨ (k ∈ fs ∧ (k.isOb = false → k.addr ≠ a)))
    (hl : vl.lookup y = some (.ref a) := by rfl) (hk : env.scope.kind = .function := by rfl) (hd : (y == ("__debug__" : Str)) = false := by decide) (hc : (y == ("__classdict__" : Str)) = false := by decide)
    (hi : interactive env = false := by rfl) (hsw : swapsWith (.Call (.Attribute (.Name y yp) "append" apos) [elt] [] pos) none epos.line env = pure false := by rfl)
    (hbase : attributeBase (.Name y yp) "append" env (eval (.Name y yp) env) = eval (.Name y yp) env := by rfl)
    (hfew : ((backTo pos (starEach [elt] env)).all (fun x => !x.1) && (backToKw pos (keywordEach [] env)).all (fun x => x.1.isSome)
      && decide (([elt] : List Expr).length + ([] : List Keyword).length + (if ([] : List Keyword).isEmpty then 0 else 1) < 30)) = true := by rfl)
    (hline : (apos.endLine == pos.line) = true := by rfl)
    (htrees : backTo pos (starEach [elt] env) = [(false, eval elt env)] := by rfl) :
    Tr prog w A (SS g env M vl fs) (exec (.Expr (.Call (.Attribute (.Name y yp) "append" apos) [elt] [] pos) epos) env) (Nx (SS g env M vl fs') Q) :=
  ts_append (f' := .pl a (ns ++ [z])) VI.mono hM hf (fun _ q => q) (fun _ q => q) rfl (fun _ _ _ _ _ q => q) hsz h hk' hl hk hd hc hi hsw hbase hfew hline htrees
theorem ts_append_row {xss : List (List Int)} {z : List Int} {a : Addr} {fs' : List Fact} {y : Str} {yp apos epos : Pos} {elt : Expr} (hM : a ∈ M) (hf : Fact.pll a xss ∈ fs) (hsz : xss.length ≤ 2 ^ 20)
    (h : ∀ h0, SS g env M vl fs h0 → Ev prog w A env (Ext h0) elt (VPL (Nw h0) z)) (hk' : ∀ k ∈ fs', k = .pll a (xss ++ [z]) ∨ (k ∈ fs ∧ (k.isOb = false → k.addr ≠ a)))
    (hl : vl.lookup y = some (.ref a) := by rfl) (hk : env.scope.kind = .function := by rfl) (hd : (y == ("__debug__" : Str)) = false := by decide) (hc : (y == ("__classdict__" : Str)) = false := by decide)
    (hi : interactive env = false := by rfl) (hsw : swapsWith (.Call (.Attribute (.Name y yp) "append" apos) [elt] [] pos) none epos.line env = pure false := by rfl)
    (hbase : attributeBase (.Name y yp) "append" env (eval (.Name y yp) env) = eval (.Name y yp) env := by rfl)
    (hfew : ((backTo pos (starEach [elt] env)).all (fun x => !x.1) && (backToKw pos (keywordEach [] env)).all (fun x => x.1.isSome)
      && decide (([elt] : List Expr).length + ([] : List Keyword).length + (if ([] : List Keyword).isEmpty then 0 else 1) < 30)) = true := by rfl)
    (hline : (apos.endLine == pos.line) = true := by rfl)
    (htrees : backTo pos (starEach [elt] env) = [(false, eval elt env)] := by rfl) :
    Tr prog w A (SS g env M vl fs) (exec (.Expr (.Call (.Attribute (.Name y yp) "append" apos) [elt] [] pos) epos) env) (Nx (SS g env M vl fs') Q) :=
  ts_append (f' := .pll a (xss ++ [z])) (InN.mono M) hM hf (fun _ q => q) (fun _ q => q) rfl (fun _ _ _ _ e q => VLP.mv q (fun a o n _ k => e a o (fun q => n (q ▸ hM)) k) (fun a o n _ => n) fun _ _ q => q) hsz
    (fun h0 S => (h h0 S).post fun h v q => VLP.mv q (fun _ _ _ _ e => e) (fun a o n _ => S.offM n) fun _ _ q => q) hk' hl hk hd hc hi hsw hbase hfew hline htrees

/-- a place of the list y is set -/
theorem ts_setitem {ns : List Int} {z k : Int} {a : Addr} {fs' : List Fact} {y : Str} {yp spos : Pos} {value idx : Expr} (hM : a ∈ M) (hf : Fact.ml a ns ∈ fs) (hsz : ns.length ≤ 2 ^ 20) (h0' : 0 ≤ k) (hlt : k < ns.length)
    (hv : ∀ h0, SS g env M vl fs h0 → Ev prog w A env (Ext h0) value (VI z)) (hidx : ∀ h0, SS g env M vl fs h0 → Ev prog w A env (Ext h0) idx (VI k))
    (hk' : ∀ q ∈ fs', q = .ml a (ns.set k.toNat z) ∨ (q ∈ fs ∧ (q.isOb = false → q.addr ≠ a)))
    (hl : vl.lookup y = some (.ref a) := by rfl) (hk : env.scope.kind = .function := by rfl) (hd : (y == ("__debug__" : Str)) = false := by decide) (hc : (y == ("__classdict__" : Str)) = false := by decide)
    (hs : swapsWith value (some (.Subscript (.Name y yp) idx spos)) pos.line env = pure false := by rfl) :
    Tr prog w A (SS g env M vl fs) (exec (.Assign [.Subscript (.Name y yp) idx spos] value pos) env) (Nx (SS g env M vl fs') Q) := fun s E S => by
  refine wpAny_Assign_Subscript ((hv _ S).use (Ext.rfl' _) fun v s1 k1 y1 => ?_) hs
  have S1 := S.ext (keeps_ext k1)
  refine (en_ref S1 hl hk hd hc).use (Ext.rfl' _) fun ov s2 k2 y2 => ?_
  cases y2
  have S2 := S1.ext (keeps_ext k2)
  refine (hidx _ S2).use (Ext.rfl' _) fun iv s3 k3 y3 => ?_
  have S3 := S2.ext (keeps_ext k3)
  obtain ⟨t, rfl⟩ := y3
  obtain ⟨vs, pl, i⟩ := (S3.fs _ hf : LA VI s3.heap a ns)
  have hlen := i.length
  obtain ⟨o, e, _, n, dd⟩ := id pl
  refine wpAny_setItem_list pl h0' (by omega) (by simp only [List.size_toArray]; omega) fun h' hl' hs' => ?_
  refine ⟨(((Kt.of k1).trans' (Kt.of k2)).trans' (Kt.of k3)).trans' (Kt.mk' s3 h' s3.toks), ?_⟩
  refine S3.change hM ⟨o, _, n, e, dd⟩ hs'.extBut (f' := .ml a (ns.set k.toNat z)) ⟨vs.set k.toNat v, ?_, ?_⟩ rfl hk'
  · have q : (vs.set k.toNat v).toArray = vs.toArray.setIfInBounds k.toNat v := by simp
    rw [q]; exact hl'
  · exact paired_set i _ _ _ y1
end
end Mine

namespace Mine

theorem SS.facts {g : Heap} {env : Env} {M : List Addr} {vl : List (Str × VD)} {fs fl : List Fact} {h : Heap} (S : SS g env M vl fs h) (hf : ∀ f ∈ fl, f.holds M h) : SS g env M vl (fl ++ fs) h :=
  ⟨S.st, S.wr, S.eg, S.mo, fun k hk => (List.mem_append.mp hk).elim (hf k) (S.fs k)⟩
theorem SS.only {g : Heap} {env : Env} {M : List Addr} {vl : List (Str × VD)} {fs fs' : List Fact} {h : Heap} (S : SS g env M vl fs h) (hf : ∀ f ∈ fs', f ∈ fs) : SS g env M vl fs' h :=
  ⟨S.st, S.wr, S.eg, S.mo, fun k hk => S.fs k (hf k hk)⟩

section
variable {prog : Program} {w : World} {A : Around} {env : Env} {g h0 : Heap} {M : List Addr} {vl : List (Str × VD)} {fs obs : List Fact} {pos pos' p : Pos} {x : Str} {Q : Flow → Heap → Prop} {P : Heap → Prop}
  {e : Expr} {mg mb : Str → Option Value} {α β : Type}

abbrev rIt (a : Int) (n i : Nat) : Obj := { cls := .type "range_iterator", dict := none, data := .fields #[rawInt (a + (i : Int)), rawInt ((n : Int) - (i : Int)), rawInt 1], slots := #[] }

theorem ts_for_range {a b : Int} {n : Nat} {tgt : Str} {tp : Pos} {iter : Expr} {body : List Stmt} (J : Nat → α → Prop) (vl' : α → List (Str × VD)) (fs' : α → List Fact) (x0 : α) (hJ0 : J 0 x0)
    (hh : A.handled = none) (hx : Sto env tgt) (hab : -(2 ^ 62) ≤ a ∧ a < 2 ^ 62 ∧ -(2 ^ 62) ≤ b ∧ b < 2 ^ 62) (hn : (n : Int) = if a < b then b - a else 0)
    (hit : ∀ h0, SS g env M (vl' x0) (obs ++ fs' x0) h0 → Ev prog w A env (Ext h0) iter (VR a b))
    (hob : ∀ x, ∀ f ∈ fs' x, f.isOb = false)
    (hbody : ∀ it o i x, i < n → J i x → Tr prog w A (SS g env M ((tgt, .int (a + (i : Int))) :: vl' x) (.ob it o :: (obs ++ fs' x))) (execs body env)
      (fun f h => match f with | .next | .cont => ∃ y, J (i + 1) y ∧ SS g env M (vl' y) (.ob it o :: (obs ++ fs' y)) h | .brk => Q .next h | .ret v => Q (.ret v) h))
    (hend : ∀ x h, J n x → SS g env M (vl' x) (obs ++ fs' x) h → Q .next h)
    (hs : ∀ x, foldedSetIterable iter env x = pure x := by intro _; rfl) :
    Tr prog w A (SS g env M (vl' x0) (obs ++ fs' x0)) (exec (.For (.Name tgt tp) iter body [] pos) env) Q := fun s E S => by
  refine wpAny_For ((hit _ S).use (Ext.rfl' _) fun xv s1 k1 y1 => ?_) hs
  obtain ⟨r, t, u, z, rfl, hr⟩ := y1
  have S1 := S.ext (keeps_ext k1)
  refine wpAny_pyIter_range hr (small_one hab.1 hab.2.1 hab.2.2.1 hab.2.2.2) ?_
  rw [rangeSize_one, ← hn]
  have hg : g.get? s1.heap.objs.size = none := S1.st.keep.none (get_size _)
  have hM : s1.heap.objs.size ∉ M := S1.offM (get_size _)
  have hobs : ∀ k ∈ obs, k.addr ≠ s1.heap.objs.size := fun k hk => S1.ne (List.mem_append_left _ hk) (get_size _)
  generalize hI : s1.heap.objs.size = it at hg hM hobs
  have S2 : SS g env M (vl' x0) (.ob it (rIt a n 0) :: (obs ++ fs' x0)) (s1.heap.push { cls := .type "range_iterator", data := .fields #[rawInt a, rawInt (n : Int), rawInt 1] }) := by
    refine (S1.ext (ext_push _ _)).fact ⟨?_, _, rfl⟩
    rw [← hI]
    have q : rIt a n 0 = { cls := .type "range_iterator", data := .fields #[rawInt a, rawInt (n : Int), rawInt 1] } := by
      show ({ cls := .type "range_iterator", dict := none, data := .fields #[rawInt (a + ((0 : Nat) : Int)), rawInt ((n : Int) - ((0 : Nat) : Int)), rawInt 1], slots := #[] } : Obj) = _
      rw [Int.natCast_zero, Int.add_zero, Int.sub_zero]
    rw [q]
    exact Heap.get?_push_size s1.heap rfl
  have turn : ∀ {h h' : Heap} {x : α} {i : Nat} {fs2 : List Fact}, SS g env M (vl' x) (.ob it (rIt a n i) :: (obs ++ fs' x)) h → Heap.ExtBut it h h' → (∀ k ∈ fs2, k.holds M h' ∨ k ∈ obs ++ fs' x) → SS g env M (vl' x) fs2 h' := fun {h h' x i fs2} Si hs hk => by
    have q := Si.fs _ (.head _)
    refine Si.turn hg ⟨_, _, q.1, rfl⟩ hs (fun k hk' => (hk k hk').imp id fun hm => ⟨.tail _ hm, fun ho => ?_⟩) hM
    rcases List.mem_append.mp hm with hm | hm
    · exact hobs k hm
    · rw [hob x k hm] at ho; cases ho
  refine codeAny_forLoop (fun k s' => Kt s s' ∧ ∃ i x, k = n + 1 - i ∧ i ≤ n ∧ J i x ∧ SS g env M (vl' x) (.ob it (rIt a n i) :: (obs ++ fs' x)) s'.heap) ?_ (n + 1)
    ⟨(Kt.of k1).trans' ⟨_, s1.toks, rfl⟩, 0, x0, rfl, Nat.zero_le _, hJ0, S2⟩
  rintro k s' ⟨kt, i, x, rfl, hi, hJ, Si⟩
  have hcur := (Si.fs _ (.head _)).1
  by_cases hlt : i < n
  · refine wpAny_pyNext_range_item (x := a + (i : Int)) (left := (n : Int) - (i : Int)) (step := 1) hcur (by omega) fun h' hit' hs' => ?_
    have hit2 : h'.get? it = some (rIt a n (i + 1)) := by
      have e1 : a + (i : Int) + 1 = a + ((i + 1 : Nat) : Int) := by push_cast; omega
      have e2 : (n : Int) - (i : Int) - 1 = (n : Int) - ((i + 1 : Nat) : Int) := by push_cast; omega
      rw [e1, e2] at hit'; exact hit'
    have St : SS g env M (vl' x) (.ob it (rIt a n (i + 1)) :: (obs ++ fs' x)) h' := turn Si hs'.extBut fun k hk => by
      cases hk with
      | head => exact .inl ⟨hit2, _, rfl⟩
      | tail _ hk => exact .inr hk
    refine wpAny_assign_Name (wpAny_mono (store_ok hx St.wr) (fun _ s2 y => ?_) fun _ _ x => x)
    refine wpAny_mono (hbody it _ i x hlt hJ s2 _ (St.store y.2 ⟨_, rfl⟩)) (fun f s3 z => ?_) fun _ _ x => x
    have kk := ((kt.trans' (Kt.mk' s' h' (s'.toks + 1))).trans' y.1).trans' z.1
    cases f with
    | next => obtain ⟨y, hy, hS⟩ := z.2; exact ⟨n + 1 - (i + 1), by omega, kk, i + 1, y, rfl, hlt, hy, hS⟩
    | cont => obtain ⟨y, hy, hS⟩ := z.2; exact ⟨n + 1 - (i + 1), by omega, kk, i + 1, y, rfl, hlt, hy, hS⟩
    | brk => exact ⟨kk, z.2⟩
    | ret v => exact ⟨kk, z.2⟩
  · obtain rfl : i = n := by omega
    refine wpAny_pyNext_range_end hh hcur (by omega) fun h' he' => wpAny_execs_nil ⟨kt.trans' (Kt.mk' s' h' s'.toks), ?_⟩
    exact hend x h' hJ (turn Si he' fun k hk => .inr hk)

theorem ts_for_list {R : β → Heap → Value → Prop} {xs : List β} {F : Addr → Fact} {G : Addr → Prop} {C : β → VD → List Fact → Prop} {V : Heap → Heap → Value → Prop} {tgt : Str} {tp : Pos} {iter : Expr} {body : List Stmt}
    (J : Nat → α → Prop) (vl' : α → List (Str × VD)) (fs' : α → List Fact) (x0 : α) (hJ0 : J 0 x0)
    (hh : A.handled = none) (hx : Sto env tgt)
    (hit : ∀ h0, SS g env M (vl' x0) (obs ++ fs' x0) h0 → Ev prog w A env (Ext h0) iter (V h0))
    (hV : ∀ h0 h v, SS g env M (vl' x0) (obs ++ fs' x0) h0 → Ext h0 h → V h0 h v → ∃ ax, v = .ref ax ∧ G ax ∧ (F ax).holds M h)
    (hF : ∀ ax h, (F ax).holds M h → LA R h ax xs) (hFo : ∀ ax, (F ax).isOb = false)
    (hC : ∀ b h v, R b h v → ∃ d fl, d.is v ∧ C b d fl ∧ ∀ f ∈ fl, f.holds M h ∧ f.isOb = false)
    (hob : ∀ x, ∀ f ∈ fs' x, f.isOb = false)
    (hbody : ∀ it ax o i b d fl x, G ax → xs[i]? = some b → C b d fl → J i x → Tr prog w A (SS g env M ((tgt, d) :: vl' x) (fl ++ (.ob it o :: F ax :: (obs ++ fs' x)))) (execs body env)
      (fun f h => match f with | .next | .cont => ∃ y, J (i + 1) y ∧ SS g env M (vl' y) (.ob it o :: F ax :: (obs ++ fs' y)) h | .brk => Q .next h | .ret v => Q (.ret v) h))
    (hend : ∀ x h, J xs.length x → SS g env M (vl' x) (obs ++ fs' x) h → Q .next h)
    (hs : ∀ x, foldedSetIterable iter env x = pure x := by intro _; rfl) :
    Tr prog w A (SS g env M (vl' x0) (obs ++ fs' x0)) (exec (.For (.Name tgt tp) iter body [] pos) env) Q := fun s E S => by
  refine wpAny_For ((hit _ S).use (Ext.rfl' _) fun xv s1 k1 y1 => ?_) hs
  obtain ⟨ax, rfl, hG, hax⟩ := hV _ _ _ S (keeps_ext k1) y1
  have S1 := (S.ext (keeps_ext k1)).fact hax
  obtain ⟨vs0, hl0, _⟩ := hF ax _ hax
  refine wpAny_pyIter_list hl0 ?_
  have hg : g.get? s1.heap.objs.size = none := S1.st.keep.none (get_size _)
  have hM : s1.heap.objs.size ∉ M := S1.offM (get_size _)
  have hobs : ∀ k ∈ obs, k.addr ≠ s1.heap.objs.size := fun k hk => S1.ne (.tail _ (List.mem_append_left _ hk)) (get_size _)
  generalize hI : s1.heap.objs.size = it at hg hM hobs
  have S2 : ∃ o, (o.cls = .type "list_iterator" ∧ o.data = .fields #[.ref ax, .int ((0 : Nat) : Int) 0]) ∧ SS g env M (vl' x0) (.ob it o :: F ax :: (obs ++ fs' x0)) (s1.heap.push { cls := .type "list_iterator", data := .fields #[.ref ax, .int 0 0] }) := by
    refine ⟨{ cls := .type "list_iterator", data := .fields #[.ref ax, .int 0 0] }, ⟨rfl, rfl⟩, (S1.ext (ext_push _ _)).fact ⟨?_, _, rfl⟩⟩
    rw [← hI]
    exact Heap.get?_push_size _ rfl
  have turn : ∀ {h h' : Heap} {x : α} {o : Obj} {fl fs2 : List Fact}, SS g env M (vl' x) (fl ++ (.ob it o :: F ax :: (obs ++ fs' x))) h → (∀ f ∈ fl, f.isOb = false) → Heap.ExtBut it h h' → (∀ k ∈ fs2, k.holds M h' ∨ k ∈ fl ++ (F ax :: (obs ++ fs' x))) → SS g env M (vl' x) fs2 h' := fun {h h' x o fl fs2} Si hfl hs hk => by
    obtain ⟨q, vs, dd⟩ := Si.fs (.ob it o) (List.mem_append_right _ (.head _))
    refine Si.turn hg ⟨_, vs, q, dd⟩ hs (fun k hk' => (hk k hk').imp id fun hm => ⟨?_, fun ho => ?_⟩) hM
    · rcases List.mem_append.mp hm with hm | hm
      · exact List.mem_append_left _ hm
      · exact List.mem_append_right _ (.tail _ hm)
    · rcases List.mem_append.mp hm with hm | hm
      · rw [hfl k hm] at ho; cases ho
      · cases hm with
        | head => rw [hFo ax] at ho; cases ho
        | tail _ hm =>
          rcases List.mem_append.mp hm with hm | hm
          · exact hobs k hm
          · rw [hob x k hm] at ho; cases ho
  obtain ⟨o2, ho2, S2⟩ := S2
  refine codeAny_forLoop (fun k s' => Kt s s' ∧ ∃ i x o, k = xs.length + 1 - i ∧ i ≤ xs.length ∧ J i x ∧ (o.cls = .type "list_iterator" ∧ o.data = .fields #[.ref ax, .int (i : Int) 0]) ∧ SS g env M (vl' x) (.ob it o :: F ax :: (obs ++ fs' x)) s'.heap) ?_ (xs.length + 1)
    ⟨(Kt.of k1).trans' ⟨_, s1.toks, rfl⟩, 0, x0, o2, rfl, Nat.zero_le _, hJ0, ho2, S2⟩
  rintro k s' ⟨kt, i, x, o, rfl, hi, hJ, ⟨hcl, hdt⟩, Si⟩
  have hcur : s'.heap.IsListIter it ax i := ⟨o, (Si.fs _ (.head _)).1, hcl, hdt⟩
  obtain ⟨vs, hl, hp⟩ := hF ax _ (Si.fs _ (.tail _ (.head _)))
  have hlen := hp.length
  by_cases hlt : i < xs.length
  · obtain ⟨v, hv, hr⟩ := paired_get hp i xs[i] (List.getElem?_eq_getElem hlt)
    refine wpAny_pyNext_list_item hcur hl (x := v) (by simpa using hv) fun h' hit' hs' => ?_
    obtain ⟨d, fl, hd, hc, hfl⟩ := hC _ _ _ hr
    obtain ⟨o', e', hcl', hdt'⟩ := hit'
    have Sf := Si.facts (fl := fl) fun f hf => (hfl f hf).1
    have St : SS g env M (vl' x) (fl ++ (.ob it o' :: F ax :: (obs ++ fs' x))) h' := turn Sf (fun f hf => (hfl f hf).2) hs'.extBut fun k hk => by
      rcases List.mem_append.mp hk with hk | hk
      · exact .inr (List.mem_append_left _ hk)
      · cases hk with
        | head => exact .inl ⟨e', _, hdt'⟩
        | tail _ hk => exact .inr (List.mem_append_right _ hk)
    refine wpAny_assign_Name (wpAny_mono (store_ok hx St.wr) (fun _ s2 y => ?_) fun _ _ x => x)
    refine wpAny_mono (hbody it ax o' i _ d fl x hG (List.getElem?_eq_getElem hlt) hc hJ s2 _ (St.store y.2 hd)) (fun f s3 z => ?_) fun _ _ x => x
    have kk := ((kt.trans' (Kt.mk' s' h' s'.toks)).trans' y.1).trans' z.1
    cases f with
    | next => obtain ⟨y, hy, hS⟩ := z.2; exact ⟨xs.length + 1 - (i + 1), by omega, kk, i + 1, y, o', rfl, hlt, hy, ⟨hcl', hdt'⟩, hS⟩
    | cont => obtain ⟨y, hy, hS⟩ := z.2; exact ⟨xs.length + 1 - (i + 1), by omega, kk, i + 1, y, o', rfl, hlt, hy, ⟨hcl', hdt'⟩, hS⟩
    | brk => exact ⟨kk, z.2⟩
    | ret v => exact ⟨kk, z.2⟩
  · have hin : i = xs.length := by omega
    refine wpAny_pyNext_list_end hh hcur hl (by simp; omega) fun h' he' => wpAny_execs_nil ⟨kt.trans' (Kt.mk' s' h' s'.toks), ?_⟩
    exact hend x h' (hin ▸ hJ) (turn (fl := []) Si (fun _ q => nomatch q) he' fun k hk => .inr (.tail _ hk))
end
end Mine

namespace Mine

structure Cap (env : Env) (scope : Scope) (cl : List (Str × Addr)) (vl cvl : List (Str × VD)) : Prop where
  sub : ∀ y c, cl.lookup y = some c → env.cells.lookup y = some c
  cap : ∀ p ∈ cvl, vl.lookup p.1 = some p.2 ∧ env.kindOf p.1 = some .cell ∧ (relabel scope env).names.lookup p.1 = some .cell ∧ cl.lookup p.1 = env.cells.lookup p.1

section
variable {prog : Program} {w : World} {A : Around} {env : Env} {g h0 : Heap} {M : List Addr} {vl cvl : List (Str × VD)} {fs obs : List Fact} {pos pos' px : Pos} {x : Str} {Q : Flow → Heap → Prop} {P : Heap → Prop}
  {elt iter : Expr} {scope : Scope} {cl : List (Str × Addr)}

theorem SS.comp {C : Addr} {h1 : Heap} {m : Str → Option Value} {v : Value} {d : VD} (S : SS g env M vl fs h0) (K : Cap env scope cl vl cvl) (hx : scope.names.lookup x = some .local)
    (e : Ext h0 h1) (hC : h0.get? C = none) (hn : h1.Ns C m) (hm : m x = some v) (hd : d.is v) : SS g (compEnvC scope cl C env) M ((x, d) :: cvl) fs h1 := by
  have cells : ∀ y c, cl.lookup y = some c → ∃ v, h1.IsCell c v := fun y c q => let ⟨v, k⟩ := S.wr.2 y c (K.sub y c q); ⟨v, k.keeps e⟩
  refine ⟨⟨S.st.keep.trans' e, fun y d' q => ?_⟩, ⟨⟨m, hn⟩, cells⟩, ⟨S.st.keep.none hC, fun y c q => ⟨(S.eg.cel y c (K.sub y c q)).1, ?_⟩, fun y z c q r => S.eg.inj y z c (K.sub y c q) (K.sub z c r)⟩,
    fun a k => ⟨(S.mo a k).1, let ⟨o, q⟩ := (S.mo a k).2; ⟨o, e _ _ q⟩⟩, fun f hf => (S.ext e).fs f hf⟩
  · rw [List.lookup_cons] at q
    cases hq : y == x with
    | true =>
      rw [hq] at q; cases q
      have : y = x := beq_iff_eq.mp hq
      subst this
      exact ⟨v, .inl ⟨lookup_relabel_local hx, m, hn, hm⟩, hd⟩
    | false =>
      rw [hq] at q
      obtain ⟨k1, k2, k3, k4⟩ := K.cap (y, d') (lookup_mem q)
      obtain ⟨u, hu, hi⟩ := S.st.vars y d' k1
      rcases hu with ⟨l1, _⟩ | ⟨_, c, c1, v1⟩
      · rw [k2] at l1; cases l1
      · exact ⟨u, .inr ⟨.inl k3, c, k4.trans c1, v1.keeps e⟩, hi⟩
  · rintro rfl
    obtain ⟨v', o, e', _⟩ := S.wr.2 y _ (K.sub y _ q)
    rw [hC] at e'; cases e'

theorem Walks.weak {I : Addr} {fp wr : List Addr} {n : Nat} {P P' : Nat → Value → Prop} {St : Nat → Heap → Prop} (W : Walks prog w A I fp wr n P St) (h : ∀ i v, P i v → P' i v) : Walks prog w A I fp wr n P' St :=
  { W with item := fun i s Q E hi st hQ => W.item i s Q E hi st fun v h' tk hP => hQ v h' tk (h i v hP) }

def Src (prog : Program) (w : World) (A : Around) (env : Env) (h0 : Heap) (iter : Expr) (ks : List Int) : Prop :=
  ∀ (s : Shared) (E : Value → Shared → Prop), Ext h0 s.heap → wpAny (model prog w) A (eval iter env) (fun xv s₁ => Keeps s s₁ ∧ wpAny (model prog w) A (pyIter xv) (fun it s₂ => (∃ h, s₂ = { s₁ with heap := h } ∧ Ext s₁.heap h) ∧
    ∃ I fp St, it = .ref I ∧ s₁.heap.get? I = none ∧ Walks prog w A I fp [I] ks.length (fun i v => ∃ k t, ks[i]? = some k ∧ v = .int k t) St ∧ St 0 s₂.heap ∧ ∀ b ∈ fp, b < s₂.heap.objs.size) E s₁) E s

theorem src_range {a b : Int} {n : Nat} (hh : A.handled = none) (hab : -(2 ^ 62) ≤ a ∧ a < 2 ^ 62 ∧ -(2 ^ 62) ≤ b ∧ b < 2 ^ 62) (hn : (n : Int) = if a < b then b - a else 0) (h : Ev prog w A env (Ext h0) iter (VR a b)) :
    Src prog w A env h0 iter ((List.range n).map fun (i : Nat) => a + (i : Int)) := fun s E q => h.use q fun xv s1 k1 y1 => by
  obtain ⟨r, t, u, z, rfl, hr⟩ := y1
  refine ⟨k1, wpAny_pyIter_range hr (small_one hab.1 hab.2.1 hab.2.2.1 hab.2.2.2) ⟨⟨_, rfl, ext_push _ _⟩, s1.heap.objs.size, [s1.heap.objs.size], (fun i h => IsRangeIter h s1.heap.objs.size (a + (i : Nat) * 1) ((n : Int) - (i : Nat)) 1), rfl, get_size _, ?_, ?_, ?_⟩⟩
  · have hlen : ((List.range n).map fun (i : Nat) => a + (i : Int)).length = n := by simp
    rw [hlen]
    let W : Walks prog w A s1.heap.objs.size [s1.heap.objs.size] [s1.heap.objs.size] n (fun i v => i < n ∧ ∃ t, v = .int (a + i * 1) t) (fun i h => IsRangeIter h s1.heap.objs.size (a + (i : Nat) * 1) ((n : Int) - (i : Nat)) 1) := (Walks.range hh s1.heap.objs.size a 1 n).bound
    refine Walks.weak W fun i v hv => ?_
    obtain ⟨hi, t, rfl⟩ := hv
    exact ⟨a + (i : Int), t, by rw [List.getElem?_map, List.getElem?_range hi]; rfl, by rw [Int.mul_one]⟩
  · rw [rangeSize_one, ← hn]
    show IsRangeIter _ _ _ _ _
    have q := Heap.get?_push_size s1.heap (o := { cls := .type "range_iterator", data := .fields #[rawInt a, rawInt (n : Int), rawInt 1] }) rfl
    simpa using q
  · intro b hb
    rw [List.mem_singleton.mp hb]
    show s1.heap.objs.size < (s1.heap.push _).objs.size
    rw [Heap.size_push]; exact Nat.lt_succ_self _
theorem src_list {ks : List Int} (hh : A.handled = none) (h : Ev prog w A env (Ext h0) iter (VIL ks)) : Src prog w A env h0 iter ks := fun s E q => h.use q fun xv s1 k1 y1 => by
  obtain ⟨ax, rfl, vs, hl, hp⟩ := y1
  have hlt : ax < s1.heap.objs.size := by obtain ⟨_, e, _⟩ := hl; exact Heap.lt_size e
  refine ⟨k1, wpAny_pyIter_list hl ⟨⟨_, rfl, ext_push _ _⟩, s1.heap.objs.size, [s1.heap.objs.size, ax], (fun i h => h.IsListIter s1.heap.objs.size ax i ∧ h.IsList ax vs.toArray), rfl, get_size _, ?_, ?_, ?_⟩⟩
  · have hlen : ks.length = vs.toArray.size := by simp [hp.length]
    rw [hlen]
    refine Walks.weak (Walks.list hh s1.heap.objs.size ax (Nat.ne_of_lt hlt) vs.toArray) fun i v hv => ?_
    have hi : i < ks.length := by rw [hlen]; exact (Array.getElem?_eq_some_iff.mp hv).1
    obtain ⟨v', e', hr⟩ := paired_get hp i ks[i] (List.getElem?_eq_getElem hi)
    have : v' = v := by
      have hv' : vs[i]? = some v := by simpa using hv
      rw [e'] at hv'; exact Option.some.inj hv'
    subst this
    obtain ⟨t, rfl⟩ := hr
    exact ⟨ks[i], t, List.getElem?_eq_getElem hi, rfl⟩
  · exact ⟨⟨_, Heap.get?_push_size _ rfl, rfl, rfl⟩, hl.push _⟩
  · intro b hb
    show b < (s1.heap.push _).objs.size
    rw [Heap.size_push]
    rcases List.mem_cons.mp hb with rfl | hb
    · exact Nat.lt_succ_self _
    · rw [List.mem_singleton.mp hb]; exact Nat.lt_succ_of_lt hlt

theorem ints_of : ∀ (vs : List Value) (ks : List Int), vs.length = ks.length → (∀ (j : Nat) (v : Value), vs[j]? = some v → ∃ k t, ks[j]? = some k ∧ v = Value.int k t) → Paired (fun (v : Value) (k : Int) => ∃ t, v = Value.int k t) vs ks
  | [], [], _, _ => .nil
  | v :: vs, k :: ks, hl, h => by
    obtain ⟨k', t, e, rfl⟩ := h 0 v rfl
    simp at e; subst e
    exact .cons ⟨t, rfl⟩ (ints_of vs ks (by simpa using hl) fun j v hj => by simpa using h (j + 1) v (by simpa using hj))
theorem comp_vals {F : Value → Value → Prop} {p : Value → Bool} {pp : Int → Bool} {ff : Int → Int} {h : Heap} (hp : ∀ k t, p (.int k t) = pp k) (hF : ∀ k t y, F (.int k t) y → ∃ u, y = .int (ff k) u) :
    ∀ {vs : List Value} {ks : List Int}, Paired (fun (v : Value) (k : Int) => ∃ t, v = Value.int k t) vs ks → ∀ {ys : List Value}, Paired F (vs.filter p) ys → Paired (fun v x => VI x h v) ys ((ks.filter pp).map ff)
  | _, _, .nil, ys, q => by cases q; exact .nil
  | _, _, @Paired.cons _ _ _ v k l1 l2 hv r, ys, q => by
    obtain ⟨t, rfl⟩ := hv
    rw [List.filter_cons, hp] at q
    rw [List.filter_cons]
    cases hk : pp k with
    | true =>
      rw [hk] at q
      simp only [if_true] at q ⊢
      cases q with
      | cons a b => exact .cons (hF _ _ _ a) (comp_vals hp hF r b)
    | false =>
      rw [hk] at q
      simp only [Bool.false_eq_true, if_false] at q ⊢
      exact comp_vals hp hF r q

theorem ev_comp {ks : List Int} {ifs : List Expr} (S : SS g env M vl fs h0) (hsrc : Src prog w A env h0 iter ks) (pp : Int → Bool) (ff : Int → Int) (K : Cap env scope cl vl cvl) (hsz : ks.length ≤ 2 ^ 20)
    (hclos : closureFor scope env = pure cl)
    (htest : ∀ C h1 k, k ∈ ks → SS g (compEnvC scope cl C env) M ((x, .int k) :: cvl) fs h1 → ∀ (s : Shared) (E : Value → Shared → Prop), s.heap = h1 →
      wpAny (model prog w) A (forIn ifs true fun c r => if r = true then do let ok ← isTrue c (compEnvC scope cl C env) (eval c (compEnvC scope cl C env)); pure (ForInStep.yield ok) else pure (ForInStep.yield r)) (fun ok s' => ok = pp k ∧ Keeps s s') E s)
    (helt : ∀ C h1 k, k ∈ ks → pp k = true → SS g (compEnvC scope cl C env) M ((x, .int k) :: cvl) fs h1 → Ev prog w A (compEnvC scope cl C env) (Ext h1) elt (VI (ff k)))
    (hx : scope.names.lookup x = some .local := by rfl) (hcell : ∀ y ∈ scope.names, y.2 ≠ .cell := by decide) (hkind : scope.kind = .function := by rfl)
    (hnames : ∀ y ∈ scope.names, y.2 = .local → scope.names.lookup y.1 = some .local := by decide)
    (hs : ∀ x, foldedSetIterable iter env x = pure x := by intro _; rfl) :
    Ev prog w A env (Ext h0) (.ListComp elt [⟨.Name x px, iter, ifs, 0⟩] scope pos) (VPL (Nw h0) ((ks.filter pp).map ff)) := fun s E q => by
  refine wpAny_ListComp_free (cl := cl) (fun v => match v with | .int k _ => pp k | _ => false) (fun v y => ∀ k t, v = .int k t → ∃ u, y = .int (ff k) u) hclos hcell hkind hnames hx ?_ hs
  refine wpAny_mono (hsrc s E q) (fun xv s1 y1 => wpAny_mono y1.2 (fun it s2 y2 => ?_) fun _ _ x => x) fun _ _ x => x
  obtain ⟨⟨h2, rfl, e2⟩, I, fp, St, rfl, hI, W, hst, hfp⟩ := y2
  have e1 := keeps_ext y1.1
  have e12 : Ext h0 h2 := (q.trans' e1).trans' e2
  have up : ∀ h, (∀ b o, b ∉ [I] → h2.get? b = some o → h.get? b = some o) → Ext s1.heap h := fun h k b o e => k b o (fun m => by rw [List.mem_singleton.mp m, hI] at e; cases e) (e2 b o e)
  refine ⟨I, fp, [I], ks.length, _, St, rfl, W, by rw [sizeLine_eq]; omega, hst, hfp, ⟨?_, ?_⟩, ?_⟩
  · rintro C i v s3 m3 E' hC ⟨k, t, hk, rfl⟩ hn hm hkeep htk
    have e3 : Ext h0 s3.heap := (q.trans' e1).trans' (up _ hkeep)
    have hC0 : h0.get? C = none := e12.none (by
      cases z : h2.get? C with
      | none => rfl
      | some o => exact absurd (Heap.lt_size z) (Nat.not_lt.mpr hC))
    exact htest C s3.heap k (List.mem_of_getElem? hk) (S.comp K hx e3 hC0 hn hm ⟨t, rfl⟩) s3 E' rfl
  · rintro C i v s3 m3 E' hC ⟨k, t, hk, rfl⟩ hp hn hm hkeep htk
    have e3 : Ext h0 s3.heap := (q.trans' e1).trans' (up _ hkeep)
    have hC0 : h0.get? C = none := e12.none (by
      cases z : h2.get? C with
      | none => rfl
      | some o => exact absurd (Heap.lt_size z) (Nat.not_lt.mpr hC))
    refine (helt C s3.heap k (List.mem_of_getElem? hk) hp (S.comp K hx e3 hC0 hn hm ⟨t, rfl⟩)).use (Ext.rfl' _) fun y s4 k4 y4 => ⟨fun k' t' e => ?_, k4⟩
    cases e
    exact y4
  · intro D h' tk ys vs hD hl hpl hlen hP hF hkeep
    refine ⟨keeps_trans y1.1 ⟨h', tk, rfl, up _ hkeep⟩, D, rfl, ⟨ys.toList, by simpa using hpl, ?_⟩, ?_⟩
    · exact comp_vals (fun _ _ => rfl) (fun k t y hy => hy k t rfl) (ints_of vs ks hlen hP) hF
    · exact e12.none hD
theorem ev_comp1 {ks : List Int} {c : Expr} (S : SS g env M vl fs h0) (hsrc : Src prog w A env h0 iter ks) (pp : Int → Bool) (ff : Int → Int) (K : Cap env scope cl vl cvl) (hsz : ks.length ≤ 2 ^ 20)
    (hclos : closureFor scope env = pure cl)
    (htest : ∀ C h1 k, k ∈ ks → SS g (compEnvC scope cl C env) M ((x, .int k) :: cvl) fs h1 → It prog w A (compEnvC scope cl C env) (Ext h1) c (pp k))
    (helt : ∀ C h1 k, k ∈ ks → pp k = true → SS g (compEnvC scope cl C env) M ((x, .int k) :: cvl) fs h1 → Ev prog w A (compEnvC scope cl C env) (Ext h1) elt (VI (ff k)))
    (hx : scope.names.lookup x = some .local := by rfl) (hcell : ∀ y ∈ scope.names, y.2 ≠ .cell := by decide) (hkind : scope.kind = .function := by rfl)
    (hnames : ∀ y ∈ scope.names, y.2 = .local → scope.names.lookup y.1 = some .local := by decide)
    (hs : ∀ x, foldedSetIterable iter env x = pure x := by intro _; rfl) :
    Ev prog w A env (Ext h0) (.ListComp elt [⟨.Name x px, iter, [c], 0⟩] scope pos) (VPL (Nw h0) ((ks.filter pp).map ff)) :=
  ev_comp S hsrc pp ff K hsz hclos (fun C h1 k hk S1 s E e => by subst e; exact wpAny_tests_one (wpAny_mono (htest C _ k hk S1 s E _ rfl (Ext.rfl' _)) (fun _ _ y => ⟨y.2, y.1⟩) fun _ _ x => x)) helt hx hcell hkind hnames hs
theorem ev_comp0 {ks : List Int} (S : SS g env M vl fs h0) (hsrc : Src prog w A env h0 iter ks) (ff : Int → Int) (K : Cap env scope cl vl cvl) (hsz : ks.length ≤ 2 ^ 20)
    (hclos : closureFor scope env = pure cl)
    (helt : ∀ C h1 k, k ∈ ks → SS g (compEnvC scope cl C env) M ((x, .int k) :: cvl) fs h1 → Ev prog w A (compEnvC scope cl C env) (Ext h1) elt (VI (ff k)))
    (hx : scope.names.lookup x = some .local := by rfl) (hcell : ∀ y ∈ scope.names, y.2 ≠ .cell := by decide) (hkind : scope.kind = .function := by rfl)
    (hnames : ∀ y ∈ scope.names, y.2 = .local → scope.names.lookup y.1 = some .local := by decide)
    (hs : ∀ x, foldedSetIterable iter env x = pure x := by intro _; rfl) :
    Ev prog w A env (Ext h0) (.ListComp elt [⟨.Name x px, iter, [], 0⟩] scope pos) (VPL (Nw h0) (ks.map ff)) := by
  have := ev_comp (pos := pos) (px := px) (ifs := []) S hsrc (fun _ => true) ff K hsz hclos (fun C h1 k hk S1 s E e => wpAny_tests_nil ⟨rfl, keeps_refl s⟩) (fun C h1 k hk _ S1 => helt C h1 k hk S1) hx hcell hkind hnames hs
  rw [List.filter_eq_self.mpr (fun _ _ => rfl)] at this
  exact this
end
end Mine

namespace Mine

def stAt (i : Nat) : Stmt := match PySem.Challenge.pw_sc0029_01.main.body.drop i with
  | s :: _ => s
  | [] => .Pass ⟨0, 0, 0, 0⟩
def bodyAt (i : Nat) : List Stmt := match stAt i with
  | .FunctionDef _ _ b _ _ _ _ _ _ _ => b
  | _ => []
def scopeAt (i : Nat) : Scope := match stAt i with
  | .FunctionDef _ _ _ _ _ _ s _ _ _ => s
  | _ => default
def paramsAt (i : Nat) : Arguments := match stAt i with
  | .FunctionDef _ a _ _ _ _ _ _ _ _ => a
  | _ => default
def nameAt (i : Nat) : Str := match stAt i with
  | .FunctionDef n _ _ _ _ _ _ _ _ _ => n
  | _ => default
def fnD (i : Nat) (dV kV doc pm : Value) (an : Option Addr) (cdv ct : Value) : FuncData :=
  { name := nameAt i, qualname := nameAt i, params := paramsAt i, body := .stmts (bodyAt i), scope := scopeAt i, globals := mainGlobals, closure := [], defaults := dV, kwdefaults := kV, doc := doc, pyModule := pm, annotations := an, code := cdv, closureTuple := ct, builtins := builtinsNs }
def IsFn (g : Heap) (i : Nat) (f : Addr) (dV kV : Value) : Prop := ∃ o doc pm an cdv ct, g.get? f = some o ∧ o.data = .func (fnD i dV kV doc pm an cdv ct) ∧ g.CodeRec cdv (nameAt i)
def envI (i : Nat) (cells : List (Str × Addr)) (L f : Addr) (cd : Value) : Env :=
  { scope := scopeAt i, locals := L, globals := mainGlobals, cells := cells, qual := nameAt i ++ ".<locals>.", func := some f, code := cd, frame := some L, builtins := builtinsNs }

section
variable {prog : Program} {w : World} {A : Around} {g0 g h0 : Heap} {s : Shared} {E : Value → Shared → Prop}

theorem call_fn {i : Nat} {f : Addr} {dV kV : Value} {vs : List Value} {binds : List (Str × Value)} {V : Heap → Value → Prop} (F : IsFn g0 i f dV kV) (lim : g0.NoLimit) (hroom : A.depth < recursionLimit) (e : Ext g0 s.heap)
    (hbind : ∀ doc pm an cdv ct, BindsTo s (fnD i dV kV doc pm an cdv ct) ⟨vs, []⟩ binds) (hcell : ∀ x ∈ (scopeAt i).names, x.2 ≠ .cell) (hloc : ∀ x ∈ binds, (scopeAt i).names.lookup x.1 = some .local)
    (h : ∀ L cd, s.heap.get? L = none → Tr prog w (A.deeper (envI i [] L f cd)) (fun h => h.Ns L (fun x => binds.reverse.lookup x) ∧ Ext s.heap h) (execs (bodyAt i) (envI i [] L f cd)) (fun fl h => ∃ v, fl = .ret v ∧ Ext s.heap h ∧ V h v))
    (hco : (scopeAt i).isCoroutine = false) (hgen : (scopeAt i).isGenerator = false) (hk : (scopeAt i).kind = .function) :
    wpAny (model prog w) A (call (.ref f) vs) (fun v s' => Keeps s s' ∧ V s'.heap v) E s := by
  obtain ⟨o, doc, pm, an, cdv, ct, ho, hd, hc⟩ := F
  refine wpAny_call (codeAny_call_def (fd := fnD i dV kV doc pm an cdv ct) (body := bodyAt i) (binds := binds) hroom (e _ _ ho) hd (lim.keeps e) (hc.keeps e) rfl (hbind _ _ _ _ _) hcell hloc (fun h₁ hns hk₁ => ?_) hco hgen hk)
  refine wpAny_mono (h s.heap.objs.size cdv (get_size _) { s with heap := h₁, toks := s.toks + binds.length } _ ⟨hns, hk₁⟩) (fun fl s' y => ?_) fun _ _ x => x
  obtain ⟨⟨h2, t2, rfl⟩, v, rfl, e2, hv⟩ := y
  exact ⟨⟨h2, t2, rfl, e2⟩, hv⟩

theorem SS.start {i : Nat} {L f : Addr} {cd : Value} {m : Str → Option Value} {vl : List (Str × VD)} {fs : List Fact} {h : Heap} (hL : g.get? L = none) (hn : h.Ns L m) (e : Ext g h)
    (hv : ∀ p ∈ vl, ∃ v, m p.1 = some v ∧ p.2.is v ∧ (envI i [] L f cd).kindOf p.1 = some .local) (hf : ∀ f ∈ fs, f.holds [] g) : SS g (envI i [] L f cd) [] vl fs h :=
  ⟨⟨e, fun x d q => let ⟨v, a, b, c⟩ := hv (x, d) (lookup_mem q); ⟨v, .inl ⟨c, m, hn, a⟩, b⟩⟩, ⟨⟨m, hn⟩, fun x c q => (by cases q)⟩, ⟨hL, fun x c q => (by cases q), fun x y c q => (by cases q)⟩, (fun a q => by cases q), fun k hk => Fact.ext (hf k hk) e⟩

def AllL {α : Type} (P : α → Prop) : List α → Prop
  | [] => True
  | a :: r => P a ∧ AllL P r
theorem AllL.all {α : Type} {P : α → Prop} : ∀ {l : List α}, AllL P l → ∀ a ∈ l, P a
  | _ :: _, ⟨h, _⟩, _, .head _ => h
  | _ :: _, ⟨_, h⟩, a, .tail _ m => AllL.all h a m
theorem SS.recast {env : Env} {M : List Addr} {vl vl' : List (Str × VD)} {fs fs' : List Fact} {h : Heap} (S : SS g env M vl fs h) (hv : AllL (fun p => vl.lookup p.1 = some p.2) vl') (hf : AllL (fun k => k ∈ fs ∨ k.holds M h) fs') : SS g env M vl' fs' h :=
  ⟨S.st.weak hv.all, S.wr, S.eg, S.mo, fun k hk => (hf.all k hk).elim (S.fs k) id⟩
theorem SS.start' {i : Nat} {L f : Addr} {cd : Value} {m : Str → Option Value} {vl : List (Str × VD)} {fs : List Fact} {h : Heap} (hL : g.get? L = none) (hn : h.Ns L m) (e : Ext g h)
    (hv : AllL (fun p => ∃ v, m p.1 = some v ∧ p.2.is v ∧ (envI i [] L f cd).kindOf p.1 = some .local) vl) (hf : AllL (fun k => k.holds [] g) fs) : SS g (envI i [] L f cd) [] vl fs h := SS.start hL hn e hv.all hf.all
end

theorem Gl.ext {g h : Heap} {mg mb : Str → Option Value} (G : Gl g mg mb) (e : Ext g h) : Gl h mg mb := ⟨G.g.keeps e, G.b.keeps e, G.lim.keeps e⟩
/-- the names outside -/
structure Bi (mg mb : Str → Option Value) : Prop where
  len : mg "len" = none ∧ mb "len" = some (.builtin "len")
  range : mg "range" = none ∧ mb "range" = some (.type "range")
  type : mg "type" = none ∧ mb "type" = some (.type "type")
  int : mg "int" = none ∧ mb "int" = some (.type "int")
  list : mg "list" = none ∧ mb "list" = some (.type "list")

end Mine

namespace Mine


section
variable {prog : Program} {w : World} {A : Around} {g0 g h0 : Heap} {s : Shared} {E : Value → Shared → Prop} {mg mb : Str → Option Value}

theorem table_walk {L f : Addr} {cd : Value} {pf : Addr} {row : List Int} (G : Gl g mg mb) (B : Bi mg mb) (hh : A.handled = none) (hn : 0 < row.length) (hn2 : row.length ≤ 2 ^ 20) :
    Tr prog w A (SS g (envI 1 [] L f cd) [] [("prefix", .ref pf)] [.il pf row]) (execs (bodyAt 1) (envI 1 [] L f cd)) (fun fl h => ∃ v, fl = .ret v ∧ Ext g h ∧ VIL (tbl row) h v) := by
  refine tr_cons (ts_new ⟨rfl, .inl rfl⟩ (ns := List.replicate row.length 0) fun h0 S => ?_) (Tr.ex fun T => Tr.of fun hT => ?_)
  · exact ev_rep (ext_mono h0) nw_ok VI.mono (ev_display (N := Nw h0) (ext_mono h0) nw_ok VI.mono (evs_p_cons (ext_mono h0) VI.mono ev_int evs_p_nil) (by simp)) (ev_len (ext_mono h0) VI.mono (en_bi S G B.len) (en_il S (.head _)) (by omega)) (by omega) (by omega)
  have hpT : pf ≠ T := hT.1 (.il pf row) (.head _)
  refine Tr.pre (P := SS g (envI 1 [] L f cd) [T] [("table", .ref T), ("prefix", .ref pf)] [.ml T (tb row 0), .il pf row]) (fun h S => S.recast ⟨rfl, rfl, trivial⟩ ⟨.inr ?_, .inl (.tail _ (.head _)), trivial⟩) ?_
  · rw [tb_zero]; exact LP.la (S.fs (.pl T _) (.head _))
  refine tr_cons (R := SS g (envI 1 [] L f cd) [T] [("table", .ref T), ("prefix", .ref pf)] [.ml T (tbl row), .il pf row])
    (ts_for_range (obs := []) (a := 1) (b := row.length) (n := row.length - 1) (fun k ts => ts = tb row k) (fun _ => [("table", .ref T), ("prefix", .ref pf)]) (fun ts => [.ml T ts, .il pf row]) (tb row 0) rfl hh ⟨rfl, .inl rfl⟩ (by omega) (by split <;> omega)
      (fun h0 S => ev_range2 (ext_mono h0) (en_bi S G B.range) ev_int (ev_len (ext_mono h0) VI.mono (en_bi S G B.len) (en_il S (.tail _ (.head _))) (by omega)))
      (fun x f hf => by rcases List.mem_cons.mp hf with rfl | hf; · rfl
                        rcases List.mem_cons.mp hf with rfl | hf; · rfl
                        cases hf) ?_ ?_) ?_
  · rintro it o i ts hi rfl
    refine tr_cons (ts_int (i := (fl row (i + 1) : Int)) ⟨rfl, .inl rfl⟩ fun h0 S => ?_) ?_
    · exact ev_item (k := 1 + (i : Int) - 1) (ext_mono h0) VI.mono (en_ml S (.tail _ (.head _))) (ev_sub (ext_mono h0) (en_int S) ev_int) (by omega) (by rw [show (1 + (i : Int) - 1).toNat = i by omega]; exact tb_get (by omega) (by omega)) (by simp [tb_length]; omega)
    have hl : 1 + (i : Int) = ((i + 1 : Nat) : Int) := by omega
    have hil : i + 1 < row.length := by omega
    refine tr_cons (R := fun h => ∃ y, y = tb row (i + 1) ∧ SS g (envI 1 [] L f cd) [T] [("table", .ref T), ("prefix", .ref pf)] (.ob it o :: ([] ++ [.ml T y, .il pf row])) h)
      (Tr.pre (P := fun h => Kp row (i + 1) (fl row (i + 1)) ∧ SS g (envI 1 [] L f cd) [T] [("idx", .int (fl row (i + 1) : Int)), ("i", .int (1 + (i : Int))), ("table", .ref T), ("prefix", .ref pf)] [.ob it o, .ml T (tb row i), .il pf row] h)
        (fun h S => ⟨kp_start (by omega) hil, S⟩)
        (tr_while (fun (k : Nat) h => Kp row (i + 1) k ∧ SS g (envI 1 [] L f cd) [T] [("idx", .int (k : Int)), ("i", .int (1 + (i : Int))), ("table", .ref T), ("prefix", .ref pf)] [.ob it o, .ml T (tb row i), .il pf row] h)
          (fun k => k) (fun k => rv row (i + 1) != rv row k) (fun k h h' e q => ⟨q.1, q.2.ext e⟩) ?_ ?_ ?_ (fl row (i + 1)))) (tr_nil fun _ q => q)
    · rintro k h0 ⟨hK, S⟩
      exact it_ne (ext_mono h0) (ev_item (ext_mono h0) VI.mono (en_il S (.tail _ (.tail _ (.head _)))) (en_int S) (by omega) (by rw [show (1 + (i : Int)).toNat = i + 1 by omega]; exact rv_get hil) (by omega))
        (ev_item (ext_mono h0) VI.mono (en_il S (.tail _ (.tail _ (.head _)))) (en_int S) (by omega) (by rw [show ((k : Int)).toNat = k by omega]; exact rv_get (by have := hK.1; omega)) (by omega))
    · intro k hk
      refine Tr.of fun hK => ?_
      have hki := hK.1
      have hne : row[i + 1]? ≠ row[k]? := by
        rw [rv_get hil, rv_get (show k < row.length by omega)]
        intro q; simp only [Option.some.injEq] at q; simp [q] at hk
      refine tr_cons (R := fun h => k ≠ 0 ∧ SS g (envI 1 [] L f cd) [T] [("idx", .int (k : Int)), ("i", .int (1 + (i : Int))), ("table", .ref T), ("prefix", .ref pf)] [.ob it o, .ml T (tb row i), .il pf row] h)
        (tr_if (b := (k : Int) == 0) SS.mono (fun h0 S => it_eq (ext_mono h0) (en_int S) ev_int) (fun hb => ?_) (fun hb => tr_nil fun h S => ⟨by rintro rfl; simp at hb, S⟩)) (Tr.of fun hk0 => ?_)
      · have hk0 : k = 0 := by have := beq_iff_eq.mp hb; omega
        subst hk0
        refine tr_cons (ts_setitem (a := T) (k := 1 + (i : Int)) (z := 0) (fs' := [.ob it o, .ml T (tb row (i + 1)), .il pf row]) (.head _) (.tail _ (.head _)) (by rw [tb_length]; omega) (by omega) (by rw [tb_length]; omega) (fun h0 S => ev_int) (fun h0 S => en_int S)
          (AllL.all ⟨.inr ⟨.head _, fun q => nomatch q⟩, .inl ?_, .inr ⟨.tail _ (.tail _ (.head _)), fun _ => hpT⟩, trivial⟩)) (tr_cons (R := fun _ => False) (tr_break fun h S => ⟨_, rfl, S.recast ⟨rfl, rfl, trivial⟩ ⟨.inl (.head _), .inl (.tail _ (.head _)), .inl (.tail _ (.tail _ (.head _))), trivial⟩⟩) (tr_nil fun _ q => q.elim))
        have e := kp_zero hil hK hne
        rw [show (1 + (i : Int)).toNat = i + 1 by omega, ← tb_set hil, e]; rfl
      · refine tr_cons (ts_int (i := (fl row k : Int)) ⟨rfl, .inl rfl⟩ fun h0 S => ?_) (tr_nil fun h S => ⟨fl row k, fl_lt (by omega), kp_next hil hK (by omega) hne, S.recast ⟨rfl, rfl, rfl, rfl, trivial⟩ ⟨.inl (.head _), .inl (.tail _ (.head _)), .inl (.tail _ (.tail _ (.head _))), trivial⟩⟩)
        exact ev_item (k := (k : Int) - 1) (ext_mono h0) VI.mono (en_ml S (.tail _ (.head _))) (ev_sub (ext_mono h0) (en_int S) ev_int) (by omega)
          (by rw [show ((k : Int) - 1).toNat = k - 1 by omega]; have := tb_get (r := row) (i := k - 1) (k := i) (by omega) (by omega); rwa [show k - 1 + 1 = k by omega] at this) (by simp [tb_length]; omega)
    · intro k hk
      refine Tr.of fun hK => ?_
      have hki := hK.1
      have he : row[i + 1]? = row[k]? := by
        rw [rv_get hil, rv_get (show k < row.length by omega)]
        simpa using hk
      refine tr_cons (ts_setitem (a := T) (k := 1 + (i : Int)) (z := (k : Int) + 1) (fs' := [.ob it o, .ml T (tb row (i + 1)), .il pf row]) (.head _) (.tail _ (.head _)) (by rw [tb_length]; omega) (by omega) (by rw [tb_length]; omega) (fun h0 S => ev_add (ext_mono h0) (en_int S) ev_int) (fun h0 S => en_int S)
          (AllL.all ⟨.inr ⟨.head _, fun q => nomatch q⟩, .inl ?_, .inr ⟨.tail _ (.tail _ (.head _)), fun _ => hpT⟩, trivial⟩)) (tr_nil fun h S => ⟨_, rfl, S.recast ⟨rfl, rfl, trivial⟩ ⟨.inl (.head _), .inl (.tail _ (.head _)), .inl (.tail _ (.tail _ (.head _))), trivial⟩⟩)
      have e := kp_hit hil hK he
      rw [show (1 + (i : Int)).toNat = i + 1 by omega, ← tb_set hil, e]; rfl
  · rintro x h rfl S
    exact S.recast ⟨rfl, rfl, trivial⟩ ⟨.inl (by rw [← tb_all (k := row.length - 1) (by omega)]; exact .head _), .inl (.tail _ (.head _)), trivial⟩
  · refine tr_cons (R := fun _ => False) (tr_return (V := fun _ => VIL (tbl row)) (fun h0 S => en_ml S (.head _)) fun h0 h v S e V => ⟨v, rfl, S.st.keep.trans' e, V⟩) (tr_nil fun _ q => q.elim)
theorem table_call {f pf : Addr} {row : List Int} (F : IsFn g0 1 f .none .none) (G : Gl g0 mg mb) (B : Bi mg mb) (hh : A.handled = none) (hd : A.depth < recursionLimit) (e : Ext g0 s.heap) (hl : LA VI s.heap pf row)
    (hn : 0 < row.length) (hn2 : row.length ≤ 2 ^ 20) : wpAny (model prog w) A (call (.ref f) [.ref pf]) (fun v s' => Keeps s s' ∧ VIL (tbl row) s'.heap v) E s :=
  call_fn (binds := [("prefix", .ref pf)]) F G.lim hd e (fun _ _ _ _ _ => BindsTo.of_eq rfl) (by decide) (AllL.all ⟨rfl, trivial⟩)
    (fun L cd hL => Tr.pre (P := SS s.heap (envI 1 [] L f cd) [] [("prefix", .ref pf)] [.il pf row]) (fun h q => SS.start' hL q.1 q.2 ⟨⟨.ref pf, rfl, rfl, rfl⟩, trivial⟩ ⟨⟨hl, fun q => nomatch q⟩, trivial⟩) (table_walk (G.ext e) B hh hn hn2)) rfl rfl rfl
end
end Mine

namespace Mine


section
variable {prog : Program} {w : World} {A : Around} {g0 g h0 : Heap} {s : Shared} {E : Value → Shared → Prop} {mg mb : Str → Option Value}

theorem bis_binds2 {i : Nat} (hi : i = 3 ∨ i = 4) {T D : Addr} {t0 : Tok} {n : Nat} {o : Obj} {m : Str → Option Value} {a x : Value} {doc pm : Value} {an : Option Addr} {cdv ct : Value} (ho : s.heap.get? T = some o) (hd : o.data = .seq #[.int 0 t0, .none] n)
    (hn : s.heap.Ns D m) (hm : m "key" = some .none) : BindsTo s (fnD i (.ref T) (.ref D) doc pm an cdv ct) ⟨[a, x], []⟩ [("a", a), ("x", x), ("lo", .int 0 t0), ("hi", .none), ("key", .none)] := fun M A E Q hq => by
  rcases hi with rfl | rfl
  · show wpAny M A (seqItems? (Value.ref T) >>= _) Q E s
    refine wpAny_bind (wpAny_seqItems ho hd ?_)
    refine wpAny_bind (wpAny_of_eq (a := [(("a" : Str), a), (("x" : Str), x), (("lo" : Str), .int 0 t0), (("hi" : Str), .none)]) rfl ?_)
    refine wpAny_bind ?_
    show wpAny M A (forIn [(("key" : Str))] _ _) _ _ s
    rw [List.forIn_cons]
    refine wpAny_bind ?_
    show wpAny M A (nsGet D "key" >>= _) _ _ s
    refine wpAny_bind (wpAny_nsGet hn ?_)
    rw [hm]
    exact wpAny_pure (wpAny_pure (wpAny_of_eq rfl hq))
  · show wpAny M A (seqItems? (Value.ref T) >>= _) Q E s
    refine wpAny_bind (wpAny_seqItems ho hd ?_)
    refine wpAny_bind (wpAny_of_eq (a := [(("a" : Str), a), (("x" : Str), x), (("lo" : Str), .int 0 t0), (("hi" : Str), .none)]) rfl ?_)
    refine wpAny_bind ?_
    show wpAny M A (forIn [(("key" : Str))] _ _) _ _ s
    rw [List.forIn_cons]
    refine wpAny_bind ?_
    show wpAny M A (nsGet D "key" >>= _) _ _ s
    refine wpAny_bind (wpAny_nsGet hn ?_)
    rw [hm]
    exact wpAny_pure (wpAny_pure (wpAny_of_eq rfl hq))
theorem bis_binds4 {i : Nat} (hi : i = 3 ∨ i = 4) {T D : Addr} {t0 : Tok} {n : Nat} {o : Obj} {m : Str → Option Value} {a x l u : Value} {doc pm : Value} {an : Option Addr} {cdv ct : Value} (ho : s.heap.get? T = some o) (hd : o.data = .seq #[.int 0 t0, .none] n)
    (hn : s.heap.Ns D m) (hm : m "key" = some .none) : BindsTo s (fnD i (.ref T) (.ref D) doc pm an cdv ct) ⟨[a, x, l, u], []⟩ [("a", a), ("x", x), ("lo", l), ("hi", u), ("key", .none)] := fun M A E Q hq => by
  rcases hi with rfl | rfl
  · show wpAny M A (seqItems? (Value.ref T) >>= _) Q E s
    refine wpAny_bind (wpAny_seqItems ho hd ?_)
    refine wpAny_bind (wpAny_of_eq (a := [(("a" : Str), a), (("x" : Str), x), (("lo" : Str), l), (("hi" : Str), u)]) rfl ?_)
    refine wpAny_bind ?_
    show wpAny M A (forIn [(("key" : Str))] _ _) _ _ s
    rw [List.forIn_cons]
    refine wpAny_bind ?_
    show wpAny M A (nsGet D "key" >>= _) _ _ s
    refine wpAny_bind (wpAny_nsGet hn ?_)
    rw [hm]
    exact wpAny_pure (wpAny_pure (wpAny_of_eq rfl hq))
  · show wpAny M A (seqItems? (Value.ref T) >>= _) Q E s
    refine wpAny_bind (wpAny_seqItems ho hd ?_)
    refine wpAny_bind (wpAny_of_eq (a := [(("a" : Str), a), (("x" : Str), x), (("lo" : Str), l), (("hi" : Str), u)]) rfl ?_)
    refine wpAny_bind ?_
    show wpAny M A (forIn [(("key" : Str))] _ _) _ _ s
    rw [List.forIn_cons]
    refine wpAny_bind ?_
    show wpAny M A (nsGet D "key" >>= _) _ _ s
    refine wpAny_bind (wpAny_nsGet hn ?_)
    rw [hm]
    exact wpAny_pure (wpAny_pure (wpAny_of_eq rfl hq))

def IsBis (g : Heap) (i : Nat) (f : Addr) : Prop := ∃ T D t0 n o m, IsFn g i f (.ref T) (.ref D) ∧ g.get? T = some o ∧ o.data = .seq #[.int 0 t0, .none] n ∧ g.Ns D m ∧ m "key" = some .none

def IsBR (ns : List Int) (x : Int) (hi k : Nat) : Prop := k ≤ hi ∧ hi ≤ ns.length ∧ (∀ j, j < k → rv ns j ≤ x) ∧ ∀ j, k ≤ j → j < hi → x < rv ns j
def IsBL (ns : List Int) (x : Int) (hi k : Nat) : Prop := k ≤ hi ∧ hi ≤ ns.length ∧ (∀ j, j < k → rv ns j < x) ∧ ∀ j, k ≤ j → j < hi → x ≤ rv ns j

/-- what hi is when the call begins -/
def HiIs (d : VD) (len hi : Nat) : Prop := (d = .none ∧ hi = len) ∨ d = .int hi

theorem br_walk {L f : Addr} {cd : Value} {a : Addr} {ns : List Int} {x : Int} {d : VD} {hi k : Nat} (G : Gl g mg mb) (B : Bi mg mb) (hd : HiIs d ns.length hi) (hk : IsBR ns x hi k) (hn : ns.length ≤ 2 ^ 20) :
    Tr prog w A (SS g (envI 3 [] L f cd) [] [("a", .ref a), ("x", .int x), ("lo", .int 0), ("hi", d), ("key", .none)] [.il a ns]) (execs (bodyAt 3) (envI 3 [] L f cd)) (fun fl h => ∃ v, fl = .ret v ∧ Ext g h ∧ VI k h v) := by
  obtain ⟨k1, k2, k3, k4⟩ := hk
  refine tr_cons (R := SS g (envI 3 [] L f cd) [] [("a", .ref a), ("x", .int x), ("lo", .int 0), ("hi", d), ("key", .none)] [.il a ns]) (tr_if (b := decide ((0 : Int) < 0)) SS.mono (fun h0 S => it_lt (ext_mono h0) (en_int S) ev_int) (fun q => absurd q (by decide)) fun _ => tr_nil fun h S => S) ?_
  refine tr_cons (R := SS g (envI 3 [] L f cd) [] [("hi", .int hi), ("a", .ref a), ("x", .int x), ("lo", .int 0), ("key", .none)] [.il a ns]) ?_ ?_
  · rcases hd with ⟨rfl, rfl⟩ | rfl
    · exact tr_if (b := true) SS.mono (fun h0 S => it_is_none (ext_mono h0) (en_none S) ev_none) (fun _ => tr_cons (ts_int ⟨rfl, .inl rfl⟩ fun h0 S => ev_len (ext_mono h0) VI.mono (en_bi S G B.len) (en_il S (.head _)) (by omega)) (tr_nil fun h S => S.recast ⟨rfl, rfl, rfl, rfl, rfl, trivial⟩ ⟨.inl (.head _), trivial⟩)) fun q => nomatch q
    · exact tr_if (b := false) SS.mono (fun h0 S => it_isnt_none (ext_mono h0) (en_int S) ev_none) (fun q => nomatch q) fun _ => tr_nil fun h S => S.recast ⟨rfl, rfl, rfl, rfl, rfl, trivial⟩ ⟨.inl (.head _), trivial⟩
  refine tr_cons (R := SS g (envI 3 [] L f cd) [] [("lo", .int k)] []) (tr_if (b := true) SS.mono (fun h0 S => it_is_none (ext_mono h0) (en_none S) ev_none) (fun _ => tr_cons (R := SS g (envI 3 [] L f cd) [] [("lo", .int k)] []) ?_ (tr_nil fun h S => S)) fun q => nomatch q) ?_
  · refine Tr.pre (P := fun h => (0 ≤ k ∧ k ≤ hi ∧ hi ≤ hi) ∧ SS g (envI 3 [] L f cd) [] [("lo", .int ((0 : Nat) : Int)), ("hi", .int hi), ("a", .ref a), ("x", .int x)] [.il a ns] h) (fun h S => ⟨by omega, S.recast ⟨rfl, rfl, rfl, rfl, trivial⟩ ⟨.inl (.head _), trivial⟩⟩)
      (tr_while (fun (p : Nat × Nat) h => (p.1 ≤ k ∧ k ≤ p.2 ∧ p.2 ≤ hi) ∧ SS g (envI 3 [] L f cd) [] [("lo", .int p.1), ("hi", .int p.2), ("a", .ref a), ("x", .int x)] [.il a ns] h) (fun p => p.2 - p.1) (fun p => decide ((p.1 : Int) < (p.2 : Int)))
        (fun p h h' e q => ⟨q.1, q.2.ext e⟩) ?_ ?_ ?_ (0, hi))
    · rintro ⟨lo, hi'⟩ h0 ⟨_, S⟩
      exact it_lt (ext_mono h0) (en_int S) (en_int S)
    · rintro ⟨lo, hi'⟩ hb
      refine Tr.of fun hp => ?_
      simp only [decide_eq_true_eq] at hb hp
      have hm : (((lo : Int) + (hi' : Int)).fdiv 2) = (((lo + hi') / 2 : Nat) : Int) := by
        rw [Int.fdiv_eq_ediv_of_nonneg _ (by omega)]; push_cast; omega
      generalize hmid : (lo + hi') / 2 = mid at hm
      refine tr_cons (ts_int (i := (mid : Int)) ⟨rfl, .inl rfl⟩ fun h0 S => ?_) ?_
      · rw [← hm]
        exact ev_fdiv (ext_mono h0) (ev_add (ext_mono h0) (en_int S) (en_int S)) ev_int (by decide) (by decide)
      refine tr_cons (R := fun h => ∃ q : Nat × Nat, q.2 - q.1 < hi' - lo ∧ (q.1 ≤ k ∧ k ≤ q.2 ∧ q.2 ≤ hi) ∧ SS g (envI 3 [] L f cd) [] [("lo", .int q.1), ("hi", .int q.2), ("a", .ref a), ("x", .int x)] [.il a ns] h)
        (tr_if (b := decide (x < rv ns mid)) SS.mono (fun h0 S => it_lt (ext_mono h0) (en_int S) (ev_item (k := (mid : Int)) (ext_mono h0) VI.mono (en_il S (.head _)) (en_int S) (by omega) (by rw [Int.toNat_natCast]; exact rv_get (by omega)) (by omega))) (fun hc => ?_) (fun hc => ?_)) (tr_nil fun h q => q)
      · refine tr_cons (ts_int (i := (mid : Int)) ⟨rfl, .inl rfl⟩ fun h0 S => en_int S) (tr_nil fun h S => ⟨(lo, mid), by show mid - lo < hi' - lo; omega, ⟨hp.1, ?_, by show mid ≤ hi; omega⟩, S.recast ⟨rfl, rfl, rfl, rfl, trivial⟩ ⟨.inl (.head _), trivial⟩⟩)
        show k ≤ mid
        have hc' := of_decide_eq_true hc
        rcases Nat.lt_or_ge mid k with q | q
        · have := k3 mid q; omega
        · exact q
      · refine tr_cons (ts_int (i := (mid : Int) + 1) ⟨rfl, .inl rfl⟩ fun h0 S => ev_add (ext_mono h0) (en_int S) ev_int) (tr_nil fun h S => ⟨(mid + 1, hi'), by show hi' - (mid + 1) < hi' - lo; omega, ⟨?_, hp.2.1, hp.2.2⟩, S.recast ⟨rfl, rfl, rfl, rfl, trivial⟩ ⟨.inl (.head _), trivial⟩⟩)
        show mid + 1 ≤ k
        have hc' := of_decide_eq_false hc
        rcases Nat.lt_or_ge mid k with q | q
        · exact q
        · have := k4 mid q (by omega); omega
    · rintro ⟨lo, hi'⟩ hb
      refine Tr.of fun hp => ?_
      simp only [decide_eq_false_iff_not] at hb hp
      obtain rfl : lo = k := by omega
      exact tr_nil fun h S => S.recast ⟨rfl, trivial⟩ trivial
  · exact tr_cons (R := fun _ => False) (tr_return (V := fun _ => VI k) (fun h0 S => en_int S) fun h0 h v S e V => ⟨v, rfl, S.st.keep.trans' e, V⟩) (tr_nil fun _ q => q.elim)
theorem bl_walk {L f : Addr} {cd : Value} {a : Addr} {ns : List Int} {x : Int} {d : VD} {hi k : Nat} (G : Gl g mg mb) (B : Bi mg mb) (hd : HiIs d ns.length hi) (hk : IsBL ns x hi k) (hn : ns.length ≤ 2 ^ 20) :
    Tr prog w A (SS g (envI 4 [] L f cd) [] [("a", .ref a), ("x", .int x), ("lo", .int 0), ("hi", d), ("key", .none)] [.il a ns]) (execs (bodyAt 4) (envI 4 [] L f cd)) (fun fl h => ∃ v, fl = .ret v ∧ Ext g h ∧ VI k h v) := by
  obtain ⟨k1, k2, k3, k4⟩ := hk
  refine tr_cons (R := SS g (envI 4 [] L f cd) [] [("a", .ref a), ("x", .int x), ("lo", .int 0), ("hi", d), ("key", .none)] [.il a ns]) (tr_if (b := decide ((0 : Int) < 0)) SS.mono (fun h0 S => it_lt (ext_mono h0) (en_int S) ev_int) (fun q => absurd q (by decide)) fun _ => tr_nil fun h S => S) ?_
  refine tr_cons (R := SS g (envI 4 [] L f cd) [] [("hi", .int hi), ("a", .ref a), ("x", .int x), ("lo", .int 0), ("key", .none)] [.il a ns]) ?_ ?_
  · rcases hd with ⟨rfl, rfl⟩ | rfl
    · exact tr_if (b := true) SS.mono (fun h0 S => it_is_none (ext_mono h0) (en_none S) ev_none) (fun _ => tr_cons (ts_int ⟨rfl, .inl rfl⟩ fun h0 S => ev_len (ext_mono h0) VI.mono (en_bi S G B.len) (en_il S (.head _)) (by omega)) (tr_nil fun h S => S.recast ⟨rfl, rfl, rfl, rfl, rfl, trivial⟩ ⟨.inl (.head _), trivial⟩)) fun q => nomatch q
    · exact tr_if (b := false) SS.mono (fun h0 S => it_isnt_none (ext_mono h0) (en_int S) ev_none) (fun q => nomatch q) fun _ => tr_nil fun h S => S.recast ⟨rfl, rfl, rfl, rfl, rfl, trivial⟩ ⟨.inl (.head _), trivial⟩
  refine tr_cons (R := SS g (envI 4 [] L f cd) [] [("lo", .int k)] []) (tr_if (b := true) SS.mono (fun h0 S => it_is_none (ext_mono h0) (en_none S) ev_none) (fun _ => tr_cons (R := SS g (envI 4 [] L f cd) [] [("lo", .int k)] []) ?_ (tr_nil fun h S => S)) fun q => nomatch q) ?_
  · refine Tr.pre (P := fun h => (0 ≤ k ∧ k ≤ hi ∧ hi ≤ hi) ∧ SS g (envI 4 [] L f cd) [] [("lo", .int ((0 : Nat) : Int)), ("hi", .int hi), ("a", .ref a), ("x", .int x)] [.il a ns] h) (fun h S => ⟨by omega, S.recast ⟨rfl, rfl, rfl, rfl, trivial⟩ ⟨.inl (.head _), trivial⟩⟩)
      (tr_while (fun (p : Nat × Nat) h => (p.1 ≤ k ∧ k ≤ p.2 ∧ p.2 ≤ hi) ∧ SS g (envI 4 [] L f cd) [] [("lo", .int p.1), ("hi", .int p.2), ("a", .ref a), ("x", .int x)] [.il a ns] h) (fun p => p.2 - p.1) (fun p => decide ((p.1 : Int) < (p.2 : Int)))
        (fun p h h' e q => ⟨q.1, q.2.ext e⟩) ?_ ?_ ?_ (0, hi))
    · rintro ⟨lo, hi'⟩ h0 ⟨_, S⟩
      exact it_lt (ext_mono h0) (en_int S) (en_int S)
    · rintro ⟨lo, hi'⟩ hb
      refine Tr.of fun hp => ?_
      simp only [decide_eq_true_eq] at hb hp
      have hm : (((lo : Int) + (hi' : Int)).fdiv 2) = (((lo + hi') / 2 : Nat) : Int) := by
        rw [Int.fdiv_eq_ediv_of_nonneg _ (by omega)]; push_cast; omega
      generalize hmid : (lo + hi') / 2 = mid at hm
      refine tr_cons (ts_int (i := (mid : Int)) ⟨rfl, .inl rfl⟩ fun h0 S => ?_) ?_
      · rw [← hm]
        exact ev_fdiv (ext_mono h0) (ev_add (ext_mono h0) (en_int S) (en_int S)) ev_int (by decide) (by decide)
      refine tr_cons (R := fun h => ∃ q : Nat × Nat, q.2 - q.1 < hi' - lo ∧ (q.1 ≤ k ∧ k ≤ q.2 ∧ q.2 ≤ hi) ∧ SS g (envI 4 [] L f cd) [] [("lo", .int q.1), ("hi", .int q.2), ("a", .ref a), ("x", .int x)] [.il a ns] h)
        (tr_if (b := decide (rv ns mid < x)) SS.mono (fun h0 S => it_lt (ext_mono h0) (ev_item (k := (mid : Int)) (ext_mono h0) VI.mono (en_il S (.head _)) (en_int S) (by omega) (by rw [Int.toNat_natCast]; exact rv_get (by omega)) (by omega)) (en_int S)) (fun hc => ?_) (fun hc => ?_)) (tr_nil fun h q => q)
      · refine tr_cons (ts_int (i := (mid : Int) + 1) ⟨rfl, .inl rfl⟩ fun h0 S => ev_add (ext_mono h0) (en_int S) ev_int) (tr_nil fun h S => ⟨(mid + 1, hi'), by show hi' - (mid + 1) < hi' - lo; omega, ⟨?_, hp.2.1, hp.2.2⟩, S.recast ⟨rfl, rfl, rfl, rfl, trivial⟩ ⟨.inl (.head _), trivial⟩⟩)
        show mid + 1 ≤ k
        have hc' := of_decide_eq_true hc
        rcases Nat.lt_or_ge mid k with q | q
        · exact q
        · have := k4 mid q (by omega); omega
      · refine tr_cons (ts_int (i := (mid : Int)) ⟨rfl, .inl rfl⟩ fun h0 S => en_int S) (tr_nil fun h S => ⟨(lo, mid), by show mid - lo < hi' - lo; omega, ⟨hp.1, ?_, by show mid ≤ hi; omega⟩, S.recast ⟨rfl, rfl, rfl, rfl, trivial⟩ ⟨.inl (.head _), trivial⟩⟩)
        show k ≤ mid
        have hc' := of_decide_eq_false hc
        rcases Nat.lt_or_ge mid k with q | q
        · have := k3 mid q; omega
        · exact q
    · rintro ⟨lo, hi'⟩ hb
      refine Tr.of fun hp => ?_
      simp only [decide_eq_false_iff_not] at hb hp
      obtain rfl : lo = k := by omega
      exact tr_nil fun h S => S.recast ⟨rfl, trivial⟩ trivial
  · exact tr_cons (R := fun _ => False) (tr_return (V := fun _ => VI k) (fun h0 S => en_int S) fun h0 h v S e V => ⟨v, rfl, S.st.keep.trans' e, V⟩) (tr_nil fun _ q => q.elim)

theorem bis_start {i : Nat} {L f : Addr} {cd : Value} {a : Addr} {ns : List Int} {x : Int} {t t0 : Tok} {u : Value} {d : VD} {h : Heap} (hi : i = 3 ∨ i = 4) (hL : g.get? L = none) (e : Ext g h) (hl : LA VI g a ns)
    (hn : h.Ns L (fun x' => [(("a" : Str), Value.ref a), ("x", .int x t), ("lo", .int 0 t0), ("hi", u), ("key", .none)].reverse.lookup x')) (hu : d.is u) :
    SS g (envI i [] L f cd) [] [("a", .ref a), ("x", .int x), ("lo", .int 0), ("hi", d), ("key", .none)] [.il a ns] h := by
  rcases hi with rfl | rfl
  · exact SS.start' hL hn e ⟨⟨_, rfl, rfl, rfl⟩, ⟨_, rfl, ⟨t, rfl⟩, rfl⟩, ⟨_, rfl, ⟨t0, rfl⟩, rfl⟩, ⟨_, rfl, hu, rfl⟩, ⟨_, rfl, rfl, rfl⟩, trivial⟩ ⟨⟨hl, fun q => nomatch q⟩, trivial⟩
  · exact SS.start' hL hn e ⟨⟨_, rfl, rfl, rfl⟩, ⟨_, rfl, ⟨t, rfl⟩, rfl⟩, ⟨_, rfl, ⟨t0, rfl⟩, rfl⟩, ⟨_, rfl, hu, rfl⟩, ⟨_, rfl, rfl, rfl⟩, trivial⟩ ⟨⟨hl, fun q => nomatch q⟩, trivial⟩
theorem br_call2 {f a : Addr} {ns : List Int} {x : Int} {t : Tok} {k : Nat} (F : IsBis g0 3 f) (G : Gl g0 mg mb) (B : Bi mg mb) (hd : A.depth < recursionLimit) (e : Ext g0 s.heap) (hl : LA VI s.heap a ns) (hk : IsBR ns x ns.length k) (hn : ns.length ≤ 2 ^ 20) :
    wpAny (model prog w) A (call (.ref f) [.ref a, .int x t]) (fun v s' => Keeps s s' ∧ VI k s'.heap v) E s := by
  obtain ⟨T, D, t0, n, o, m, F, ho, hdt, hD, hm⟩ := F
  exact call_fn (binds := [("a", .ref a), ("x", .int x t), ("lo", .int 0 t0), ("hi", .none), ("key", .none)]) F G.lim hd e (fun _ _ _ _ _ => bis_binds2 (.inl rfl) (e _ _ ho) hdt (hD.keeps e) hm) (by decide) (AllL.all ⟨rfl, rfl, rfl, rfl, rfl, trivial⟩)
    (fun L cd hL => Tr.pre (fun h q => bis_start (t := t) (t0 := t0) (u := .none) (d := .none) (.inl rfl) hL q.2 hl q.1 rfl) (br_walk (d := .none) (G.ext e) B (.inl ⟨rfl, rfl⟩) hk hn)) rfl rfl rfl
theorem br_call4 {f a : Addr} {ns : List Int} {x : Int} {t t1 t2 : Tok} {k hi : Nat} (F : IsBis g0 3 f) (G : Gl g0 mg mb) (B : Bi mg mb) (hd : A.depth < recursionLimit) (e : Ext g0 s.heap) (hl : LA VI s.heap a ns) (hk : IsBR ns x hi k) (hn : ns.length ≤ 2 ^ 20) :
    wpAny (model prog w) A (call (.ref f) [.ref a, .int x t, .int 0 t1, .int hi t2]) (fun v s' => Keeps s s' ∧ VI k s'.heap v) E s := by
  obtain ⟨T, D, t0, n, o, m, F, ho, hdt, hD, hm⟩ := F
  exact call_fn (binds := [("a", .ref a), ("x", .int x t), ("lo", .int 0 t1), ("hi", .int hi t2), ("key", .none)]) F G.lim hd e (fun _ _ _ _ _ => bis_binds4 (.inl rfl) (e _ _ ho) hdt (hD.keeps e) hm) (by decide) (AllL.all ⟨rfl, rfl, rfl, rfl, rfl, trivial⟩)
    (fun L cd hL => Tr.pre (fun h q => bis_start (t := t) (t0 := t1) (u := .int hi t2) (d := .int hi) (.inl rfl) hL q.2 hl q.1 ⟨t2, rfl⟩) (br_walk (d := .int hi) (G.ext e) B (.inr rfl) hk hn)) rfl rfl rfl
theorem bl_call2 {f a : Addr} {ns : List Int} {x : Int} {t : Tok} {k : Nat} (F : IsBis g0 4 f) (G : Gl g0 mg mb) (B : Bi mg mb) (hd : A.depth < recursionLimit) (e : Ext g0 s.heap) (hl : LA VI s.heap a ns) (hk : IsBL ns x ns.length k) (hn : ns.length ≤ 2 ^ 20) :
    wpAny (model prog w) A (call (.ref f) [.ref a, .int x t]) (fun v s' => Keeps s s' ∧ VI k s'.heap v) E s := by
  obtain ⟨T, D, t0, n, o, m, F, ho, hdt, hD, hm⟩ := F
  exact call_fn (binds := [("a", .ref a), ("x", .int x t), ("lo", .int 0 t0), ("hi", .none), ("key", .none)]) F G.lim hd e (fun _ _ _ _ _ => bis_binds2 (.inr rfl) (e _ _ ho) hdt (hD.keeps e) hm) (by decide) (AllL.all ⟨rfl, rfl, rfl, rfl, rfl, trivial⟩)
    (fun L cd hL => Tr.pre (fun h q => bis_start (t := t) (t0 := t0) (u := .none) (d := .none) (.inr rfl) hL q.2 hl q.1 rfl) (bl_walk (d := .none) (G.ext e) B (.inl ⟨rfl, rfl⟩) hk hn)) rfl rfl rfl
end
end Mine

namespace Mine

section
variable {prog : Program} {w : World} {A : Around} {g0 g h0 : Heap} {s : Shared} {E : Value → Shared → Prop} {mg mb : Str → Option Value}

def pick (rs : List Int) (x : Int) : List Int := match (x.fmod 3).toNat with
  | 0 => [x.fdiv 3]
  | 1 => rs
  | _ => rs.drop 1
theorem row_walk {L f : Addr} {cd : Value} {sc : Addr} {ns : List Int} (G : Gl g mg mb) (B : Bi mg mb) (hh : A.handled = none) (hn2 : ns.length ≤ 63) :
    Tr prog w A (SS g (envI 6 [] L f cd) [] [("script", .ref sc)] [.il sc ns]) (execs (bodyAt 6) (envI 6 [] L f cd)) (fun fl h => ∃ v, fl = .ret v ∧ Ext g h ∧ ∃ row : List Int, (1 ≤ row.length ∧ row.length ≤ 10) ∧ VIL row h v) := by
  refine tr_cons (ts_new2 (ns := [0]) ⟨rfl, .inl rfl⟩ fun h0 S => ev_display (ext_mono h0) nw_ok VI.mono (evs_p_cons (ext_mono h0) VI.mono ev_int evs_p_nil) (by simp)) (Tr.ex fun r0 => ?_)
  refine tr_cons (R := fun h => ∃ x : List Int × Addr, (1 ≤ x.1.length ∧ x.1.length ≤ 10) ∧ SS g (envI 6 [] L f cd) [] [("row", .ref x.2)] [.pl x.2 x.1] h)
    (ts_for_list (obs := []) (R := VI) (xs := ns.take 8 ++ [3, 0, 2]) (F := fun ax => .pl ax (ns.take 8 ++ [3, 0, 2])) (G := fun _ => True) (C := fun b d fl => d = .int b ∧ fl = []) (V := fun h0 => VPL (Nw h0) (ns.take 8 ++ [3, 0, 2]))
      (fun _ (x : List Int × Addr) => 1 ≤ x.1.length ∧ x.1.length ≤ 10) (fun x => [("row", .ref x.2), ("script", .ref sc)]) (fun x => [.pl x.2 x.1, .il sc ns]) ([0], r0) (by simp) hh ⟨rfl, .inl rfl⟩ (fun h0 S => ?_)
      (fun h0 h v S e q => by obtain ⟨a, e1, e2, _⟩ := q; exact ⟨a, e1, trivial, e2⟩) (fun ax h q => LP.la q) (fun _ => rfl) (fun b h v q => ⟨.int b, [], q, ⟨rfl, rfl⟩, fun f hf => nomatch hf⟩) ?_ ?_ ?_) ?_
  · exact ev_cat (ext_mono h0) nw_ok VI.mono (ev_slice (N := Nw h0) (ext_mono h0) VI.mono nw_ok (en_il S (.tail _ (.head _))) part_none (part_some ev_int) (by omega) (slice_upto (by decide)))
      (ev_display (N := Nw h0) (ext_mono h0) nw_ok VI.mono (evs_p_cons (ext_mono h0) VI.mono ev_int (evs_p_cons (ext_mono h0) VI.mono ev_int (evs_p_cons (ext_mono h0) VI.mono ev_int evs_p_nil))) (by simp)) (by simp; omega)
  · rintro ⟨rs, r⟩ f hf
    rcases List.mem_cons.mp hf with rfl | hf
    · rfl
    rcases List.mem_cons.mp hf with rfl | hf
    · rfl
    cases hf
  · rintro it ax o i x d fl ⟨rs, r⟩ _ hx ⟨rfl, rfl⟩ ⟨hr1, hr2⟩
    simp only at hr1 hr2
    have hm : x.fmod 3 = 0 ∨ x.fmod 3 = 1 ∨ x.fmod 3 = 2 := by rw [Int.fmod_eq_emod_of_nonneg _ (by omega)]; omega
    refine tr_cons (ts_new2 (ns := (rs ++ pick rs x).take 10) ⟨rfl, .inl rfl⟩ fun h0 S => ?_) (tr_nil fun h ⟨a, S⟩ => ⟨(_, a), ?_, S.recast ⟨rfl, rfl, trivial⟩ ⟨.inl (.tail _ (.head _)), .inl (.tail _ (.tail _ (.head _))), .inl (.head _), .inl (.tail _ (.tail _ (.tail _ (.tail _ (.head _))))), trivial⟩⟩)
    · have hrow : ∀ {p : Pos}, Ev prog w A (envI 6 [] L f cd) (Ext h0) (.Name "row" p) (VPL (fun b => b = r) rs) := en_pl S (.tail _ (.tail _ (.head _)))
      refine ev_slice (ext_mono h0) VI.mono nw_ok (Ev.post (fun h v q => q.la) (ev_cat (N := Nw h0) (ext_mono h0) nw_ok VI.mono hrow (N2 := fun _ => True) (ys := pick rs x) ?_ ?_)) part_none (part_some ev_int) ?_ (slice_upto (by decide))
      · refine ev_item (R := fun xs => VLP (fun _ => True) VI xs) (xs := [[x.fdiv 3], rs, rs.drop 1]) (k := x.fmod 3) (ext_mono h0) (fun x => VLP.mono VI.mono _ _) (Ev.post (fun h v q => q.la) (ev_display (R := fun xs => VLP (fun _ => True) VI xs) (xs := [[x.fdiv 3], rs, rs.drop 1]) (N := Nw h0) (ext_mono h0) nw_ok (fun x => VLP.mono VI.mono _ _)
          (evs_p_cons (ext_mono h0) (fun x => VLP.mono VI.mono _ _) (Ev.post (fun h v q => VLP.mv q (fun _ _ _ _ e => e) (fun _ _ _ _ => trivial) fun _ _ q => q) (ev_display (N := Nw h0) (ext_mono h0) nw_ok VI.mono (evs_p_cons (ext_mono h0) VI.mono (ev_fdiv (ext_mono h0) (en_int S) ev_int (by decide) (by decide)) evs_p_nil) (by simp)))
          (evs_p_cons (ext_mono h0) (fun x => VLP.mono VI.mono _ _) (Ev.post (fun h v q => VLP.mv q (fun _ _ _ _ e => e) (fun _ _ _ _ => trivial) fun _ _ q => q) hrow)
          (evs_p_cons (ext_mono h0) (fun x => VLP.mono VI.mono _ _) (Ev.post (fun h v q => VLP.mv q (fun _ _ _ _ e => e) (fun _ _ _ _ => trivial) fun _ _ q => q) (ev_slice (N := Nw h0) (ext_mono h0) VI.mono nw_ok (Ev.post (fun h v q => q.la) hrow) (part_some ev_int) part_none (by omega) (slice_from (k := 1) (by decide)))) evs_p_nil))) (by simp)))
          (ev_mod (ext_mono h0) (en_int S) ev_int (by decide)) (by omega) ?_ (by simp)
        rcases hm with q | q | q <;> rw [q] <;> simp [pick, q]
      · have : (pick rs x).length ≤ 10 := by unfold pick; split <;> (try simp) <;> omega
        omega
      · have : (pick rs x).length ≤ 10 := by unfold pick; split <;> (try simp) <;> omega
        simp; omega
    · simp only [List.length_take, List.length_append]; omega
  · rintro ⟨rs, r⟩ h hJ S
    exact ⟨(rs, r), hJ, S.recast ⟨rfl, trivial⟩ ⟨.inl (.head _), trivial⟩⟩
  · refine Tr.ex fun x => Tr.of fun hx => ?_
    exact tr_cons (R := fun _ => False) (tr_return (V := fun _ => VIL x.1) (fun h0 S => Ev.post (fun h v q => q.la) (en_pl S (.head _))) fun h0 h v S e V => ⟨v, rfl, S.st.keep.trans' e, x.1, hx, V⟩) (tr_nil fun _ q => q.elim)
theorem row_call {f sc : Addr} {ns : List Int} (F : IsFn g0 6 f .none .none) (G : Gl g0 mg mb) (B : Bi mg mb) (hh : A.handled = none) (hd : A.depth < recursionLimit) (e : Ext g0 s.heap) (hl : LA VI s.heap sc ns) (hn2 : ns.length ≤ 63) :
    wpAny (model prog w) A (call (.ref f) [.ref sc]) (fun v s' => Keeps s s' ∧ ∃ row : List Int, (1 ≤ row.length ∧ row.length ≤ 10) ∧ VIL row s'.heap v) E s :=
  call_fn (V := fun h v => ∃ row : List Int, (1 ≤ row.length ∧ row.length ≤ 10) ∧ VIL row h v) (binds := [("script", .ref sc)]) F G.lim hd e (fun _ _ _ _ _ => BindsTo.of_eq rfl) (by decide) (AllL.all ⟨rfl, trivial⟩)
    (fun L cd hL => Tr.pre (P := SS s.heap (envI 6 [] L f cd) [] [("script", .ref sc)] [.il sc ns]) (fun h q => SS.start' hL q.1 q.2 ⟨⟨.ref sc, rfl, rfl, rfl⟩, trivial⟩ ⟨⟨hl, fun q => nomatch q⟩, trivial⟩) (row_walk (G.ext e) B hh hn2)) rfl rfl rfl
end
end Mine

namespace Mine

/-- how many of the first k rows bear z -/
def cn (z : Int) (bs : List (List Int)) (k : Nat) : Nat := ((bs.take k).filter fun b => decide (z ∈ b)).length
def cns (z : Int) (bs : List (List Int)) : List Int := (List.range bs.length).map fun j => (cn z bs (j + 1) : Int)
theorem cn_succ {z : Int} {bs : List (List Int)} {i : Nat} {b : List Int} (h : bs[i]? = some b) : cn z bs (i + 1) = cn z bs i + if z ∈ b then 1 else 0 := by
  unfold cn
  rw [List.take_add_one, h, List.filter_append, List.length_append]
  by_cases q : z ∈ b <;> simp [q]

section
variable {prog : Program} {w : World} {A : Around} {g0 g h0 : Heap} {s : Shared} {E : Value → Shared → Prop} {mg mb : Str → Option Value}

theorem counts_walk {L f : Addr} {cd : Value} {ea : Addr} {ess : List (List Int)} {z : Int} (hh : A.handled = none) (hn : ess.length ≤ 2 ^ 20) :
    Tr prog w A (SS g (envI 8 [] L f cd) [] [("ends", .ref ea), ("size", .int z)] [.pll ea ess]) (execs (bodyAt 8) (envI 8 [] L f cd)) (fun fl h => ∃ v, fl = .ret v ∧ Ext g h ∧ VIL (cns z (ess.drop 1)) h v) := by
  refine tr_cons (ts_new (ns := []) ⟨rfl, .inl rfl⟩ fun h0 S => ev_display (ext_mono h0) nw_ok VI.mono evs_p_nil (by simp)) (Tr.ex fun C => Tr.of fun hC => ?_)
  have heC : ea ≠ C := hC.1 (.pll ea ess) (.head _)
  refine tr_cons (ts_int (i := 0) ⟨rfl, .inl rfl⟩ fun h0 S => ev_int) ?_
  generalize hbs : ess.drop 1 = bs
  have hbl : bs.length ≤ 2 ^ 20 := by rw [← hbs]; simp; omega
  refine tr_cons (R := SS g (envI 8 [] L f cd) [C] [("counts", .ref C)] [.pl C (cns z bs)])
    (Tr.pre (P := SS g (envI 8 [] L f cd) [C] [("stood", .int 0), ("counts", .ref C), ("ends", .ref ea), ("size", .int z)] [.pl C [], .pll ea ess]) (fun h S => S)
    (ts_for_list (obs := []) (R := InN [C]) (xs := bs) (F := fun ax => .pll ax bs) (G := fun ax => ax ≠ C) (C := fun b d fl => ∃ a, d = .ref a ∧ fl = [.il a b]) (V := fun h0 => VLP (Nw h0) (InN [C]) bs)
      (fun i (x : List Int × Int) => x = ((List.range i).map fun j => (cn z bs (j + 1) : Int), (cn z bs i : Int))) (fun x => [("stood", .int x.2), ("counts", .ref C), ("ends", .ref ea), ("size", .int z)]) (fun x => [.pl C x.1, .pll ea ess]) ([], 0) (by simp [cn]) hh ⟨rfl, .inl rfl⟩ (fun h0 S => ?_)
      (fun h0 h v S e q => by
        obtain ⟨a, e1, e2, e3⟩ := q
        exact ⟨a, e1, Ne.symm (S.ne (.head _) e3), e2⟩) (fun ax h q => LP.la q) (fun _ => rfl) (fun b h v q => by
        obtain ⟨a, e1, e2, e3⟩ := q
        exact ⟨.ref a, _, e1, ⟨a, rfl, rfl⟩, AllL.all ⟨⟨⟨LP.la e2, e3⟩, rfl⟩, trivial⟩⟩) ?_ ?_ ?_)) ?_
  · exact ev_slice (ext_mono h0) (InN.mono _) nw_ok (Ev.post (fun h v q => q.la) (en_pll S (.tail _ (.head _)))) (part_some ev_int) part_none (by omega) (by rw [← hbs]; exact slice_from (k := 1) (by decide))
  · exact fun x => AllL.all ⟨rfl, rfl, trivial⟩
  · rintro it ax o i b d fl x hG hb ⟨a, rfl, rfl⟩ rfl
    refine tr_cons (R := SS g (envI 8 [] L f cd) [C] [("stood", .int (cn z bs (i + 1) : Int)), ("counts", .ref C), ("ends", .ref ea), ("size", .int z)] [.ob it o, .pll ax bs, .pl C ((List.range i).map fun j => (cn z bs (j + 1) : Int)), .pll ea ess])
      (tr_if (b := decide (z ∈ b)) SS.mono (fun h0 S => it_in (ext_mono h0) (en_int S) (en_il S (.head _))) (fun hc => ?_) (fun hc => ?_)) ?_
    · refine tr_cons (ts_int (i := (cn z bs i : Int) + 1) ⟨rfl, .inl rfl⟩ fun h0 S => ev_add (ext_mono h0) (en_int S) ev_int) (tr_nil fun h S => ?_)
      have e : (cn z bs (i + 1) : Int) = (cn z bs i : Int) + 1 := by rw [cn_succ hb, if_pos (of_decide_eq_true hc)]; rfl
      rw [e]
      exact S.recast ⟨rfl, rfl, rfl, rfl, trivial⟩ ⟨.inl (.tail _ (.head _)), .inl (.tail _ (.tail _ (.head _))), .inl (.tail _ (.tail _ (.tail _ (.head _)))), .inl (.tail _ (.tail _ (.tail _ (.tail _ (.head _))))), trivial⟩
    · refine tr_nil fun h S => ?_
      have e : (cn z bs (i + 1) : Int) = (cn z bs i : Int) := by rw [cn_succ hb, if_neg (of_decide_eq_false hc)]; rfl
      rw [e]
      exact S.recast ⟨rfl, rfl, rfl, rfl, trivial⟩ ⟨.inl (.tail _ (.head _)), .inl (.tail _ (.tail _ (.head _))), .inl (.tail _ (.tail _ (.tail _ (.head _)))), .inl (.tail _ (.tail _ (.tail _ (.tail _ (.head _))))), trivial⟩
    · have hi : i < bs.length := (List.getElem?_eq_some_iff.mp hb).1
      refine tr_cons (ts_append_int (a := C) (z := (cn z bs (i + 1) : Int)) (fs' := [.ob it o, .pll ax bs, .pl C ((List.range i).map (fun j => (cn z bs (j + 1) : Int)) ++ [(cn z bs (i + 1) : Int)]), .pll ea ess]) (.head _) (.tail _ (.tail _ (.head _))) (by simp; omega) (fun h0 S => en_int S)
        (AllL.all ⟨.inr ⟨.head _, fun q => nomatch q⟩, .inr ⟨.tail _ (.head _), fun _ => hG⟩, .inl rfl, .inr ⟨.tail _ (.tail _ (.tail _ (.head _))), fun _ => heC⟩, trivial⟩)) (tr_nil fun h S => ⟨_, rfl, ?_⟩)
      rw [List.range_succ, List.map_append]
      exact S
  · rintro x h rfl S
    exact S.recast ⟨rfl, trivial⟩ ⟨.inl (.head _), trivial⟩
  · exact tr_cons (R := fun _ => False) (tr_return (V := fun _ => VIL (cns z bs)) (fun h0 S => Ev.post (fun h v q => q.la) (en_pl S (.head _))) fun h0 h v S e V => ⟨v, rfl, S.st.keep.trans' e, V⟩) (tr_nil fun _ q => q.elim)
theorem counts_call {f ea : Addr} {ess : List (List Int)} {z : Int} {t : Tok} (F : IsFn g0 8 f .none .none) (G : Gl g0 mg mb) (hh : A.handled = none) (hd : A.depth < recursionLimit) (e : Ext g0 s.heap) (hl : LP (InN []) s.heap ea ess) (hn : ess.length ≤ 2 ^ 20) :
    wpAny (model prog w) A (call (.ref f) [.ref ea, .int z t]) (fun v s' => Keeps s s' ∧ VIL (cns z (ess.drop 1)) s'.heap v) E s :=
  call_fn (V := VIL (cns z (ess.drop 1))) (binds := [("ends", .ref ea), ("size", .int z t)]) F G.lim hd e (fun _ _ _ _ _ => BindsTo.of_eq rfl) (by decide) (AllL.all ⟨rfl, rfl, trivial⟩)
    (fun L cd hL => Tr.pre (P := SS s.heap (envI 8 [] L f cd) [] [("ends", .ref ea), ("size", .int z)] [.pll ea ess]) (fun h q => SS.start' hL q.1 q.2 ⟨⟨.ref ea, rfl, rfl, rfl⟩, ⟨_, rfl, ⟨t, rfl⟩, rfl⟩, trivial⟩ ⟨hl, trivial⟩) (counts_walk hh hn)) rfl rfl rfl
end
end Mine

namespace Mine

theorem IsFn.ext {g h : Heap} {i : Nat} {f : Addr} {dV kV : Value} (F : IsFn g i f dV kV) (e : Ext g h) : IsFn h i f dV kV :=
  let ⟨o, doc, pm, an, cdv, ct, ho, hd, hc⟩ := F; ⟨o, doc, pm, an, cdv, ct, e _ _ ho, hd, hc.keeps e⟩
theorem IsBis.ext {g h : Heap} {i : Nat} {f : Addr} (F : IsBis g i f) (e : Ext g h) : IsBis h i f :=
  let ⟨T, D, t0, n, o, m, F, ho, hdt, hD, hm⟩ := F; ⟨T, D, t0, n, o, m, F.ext e, e _ _ ho, hdt, hD.keeps e, hm⟩
/-- the defs -/
structure Fns (g : Heap) (mg : Str → Option Value) : Prop where
  tbl : ∃ f, mg "_generate_overlap_table" = some (.ref f) ∧ IsFn g 1 f .none .none
  br : ∃ f, mg "bisect_right" = some (.ref f) ∧ IsBis g 3 f
  bl : ∃ f, mg "bisect_left" = some (.ref f) ∧ IsBis g 4 f
  row : ∃ f, mg "_law_row" = some (.ref f) ∧ IsFn g 6 f .none .none
  byt : ∃ f, mg "_law_by_table" = some (.ref f) ∧ IsFn g 7 f .none .none
  cnt : ∃ f, mg "_law_counts" = some (.ref f) ∧ IsFn g 8 f .none .none
  cov : ∃ f, mg "_law_covers" = some (.ref f) ∧ IsFn g 9 f .none .none
theorem Fns.ext {g h : Heap} {mg : Str → Option Value} (F : Fns g mg) (e : Ext g h) : Fns h mg :=
  ⟨let ⟨f, a, b⟩ := F.tbl; ⟨f, a, b.ext e⟩, let ⟨f, a, b⟩ := F.br; ⟨f, a, b.ext e⟩, let ⟨f, a, b⟩ := F.bl; ⟨f, a, b.ext e⟩, let ⟨f, a, b⟩ := F.row; ⟨f, a, b.ext e⟩,
    let ⟨f, a, b⟩ := F.byt; ⟨f, a, b.ext e⟩, let ⟨f, a, b⟩ := F.cnt; ⟨f, a, b.ext e⟩, let ⟨f, a, b⟩ := F.cov; ⟨f, a, b.ext e⟩⟩

section
variable {prog : Program} {w : World} {A : Around} {env : Env} {g0 g h0 : Heap} {s : Shared} {E : Value → Shared → Prop} {mg mb : Str → Option Value} {M : List Addr} {vl : List (Str × VD)} {fs : List Fact} {p pos : Pos} {e1 e2 e3 e4 : Expr} {V : Heap → Value → Prop}

/-- a def is called -/
theorem en_call {x : Str} {f : Addr} {i : Nat} {dV kV : Value} {es : List Expr} {Vs : Heap → List Value → Prop} (S : SS g env M vl fs h0) (G : Gl g mg mb) (hf : mg x = some (.ref f)) (F : IsFn g i f dV kV)
    (ha : Evs prog w A env (Ext h0) pos (e1 :: es) Vs)
    (hc : ∀ (s : Shared) (E : Value → Shared → Prop) vs, Ext g s.heap → Ext h0 s.heap → Vs s.heap vs → wpAny (model prog w) A (call (.ref f) vs) (fun v s' => Keeps s s' ∧ V s'.heap v) E s)
    (hx : env.kindOf x = some .globalImplicit := by rfl) (hg : env.globals = mainGlobals := by rfl) (hk : env.scope.kind = .function := by rfl) (hd : (x == ("__debug__" : Str)) = false := by decide)
    (he : starEach (e1 :: es) env = (false, eval e1 env) :: starEach es env := by rfl)
    (hcall : eval (.Call (.Name x p) (e1 :: es) [] pos) env = (do callWith pos (← eval (.Name x p) env) [] (backTo pos (starEach (e1 :: es) env)) (backToKw pos (keywordEach [] env))) := by rfl) :
    Ev prog w A env (Ext h0) (.Call (.Name x p) (e1 :: es) [] pos) V := by
  obtain ⟨o, doc, pm, an, cdv, ct, ho, hd', hc'⟩ := F
  exact ev_call_def (ext_mono h0) (en_glob S G hf hx hg hk hd) ha (fun h e => e _ _ (S.st.keep _ _ ho)) hd' (fun s E vs e v => hc s E vs (S.st.keep.trans' e) e v) he hcall

theorem en_br2 {ns : List Int} {x : Int} {k : Nat} (S : SS g env M vl fs h0) (G : Gl g mg mb) (B : Bi mg mb) (F : Fns g mg) (hd : A.depth < recursionLimit) (h1 : Ev prog w A env (Ext h0) e1 (VIL ns)) (h2 : Ev prog w A env (Ext h0) e2 (VI x))
    (hk : IsBR ns x ns.length k) (hn : ns.length ≤ 2 ^ 20)
    (hx : env.kindOf "bisect_right" = some .globalImplicit := by rfl) (hg : env.globals = mainGlobals := by rfl) (hkk : env.scope.kind = .function := by rfl)
    (he : starEach [e1, e2] env = (false, eval e1 env) :: starEach [e2] env := by rfl) (he' : starEach [e2] env = (false, eval e2 env) :: starEach [] env := by rfl)
    (hcall : eval (.Call (.Name "bisect_right" p) [e1, e2] [] pos) env = (do callWith pos (← eval (.Name "bisect_right" p) env) [] (backTo pos (starEach [e1, e2] env)) (backToKw pos (keywordEach [] env))) := by rfl) :
    Ev prog w A env (Ext h0) (.Call (.Name "bisect_right" p) [e1, e2] [] pos) (VI k) := by
  obtain ⟨f, hf, Fb⟩ := F.br
  obtain ⟨T, D, t0, n, o, m, F', _⟩ := id Fb
  refine en_call S G hf F' (evs_cons (ext_mono h0) (VIL.mono ns) h1 (evs_cons (ext_mono h0) (VI.mono x) h2 evs_nil he') he) (fun s E vs eg e hv => ?_) hx hg hkk (by decide) he hcall
  obtain ⟨v, r, rfl, ⟨a, rfl, hl⟩, v', r', rfl, ⟨t, rfl⟩, rfl⟩ := hv
  exact br_call2 Fb G B hd eg hl hk hn
theorem en_bl2 {ns : List Int} {x : Int} {k : Nat} (S : SS g env M vl fs h0) (G : Gl g mg mb) (B : Bi mg mb) (F : Fns g mg) (hd : A.depth < recursionLimit) (h1 : Ev prog w A env (Ext h0) e1 (VIL ns)) (h2 : Ev prog w A env (Ext h0) e2 (VI x))
    (hk : IsBL ns x ns.length k) (hn : ns.length ≤ 2 ^ 20)
    (hx : env.kindOf "bisect_left" = some .globalImplicit := by rfl) (hg : env.globals = mainGlobals := by rfl) (hkk : env.scope.kind = .function := by rfl)
    (he : starEach [e1, e2] env = (false, eval e1 env) :: starEach [e2] env := by rfl) (he' : starEach [e2] env = (false, eval e2 env) :: starEach [] env := by rfl)
    (hcall : eval (.Call (.Name "bisect_left" p) [e1, e2] [] pos) env = (do callWith pos (← eval (.Name "bisect_left" p) env) [] (backTo pos (starEach [e1, e2] env)) (backToKw pos (keywordEach [] env))) := by rfl) :
    Ev prog w A env (Ext h0) (.Call (.Name "bisect_left" p) [e1, e2] [] pos) (VI k) := by
  obtain ⟨f, hf, Fb⟩ := F.bl
  obtain ⟨T, D, t0, n, o, m, F', _⟩ := id Fb
  refine en_call S G hf F' (evs_cons (ext_mono h0) (VIL.mono ns) h1 (evs_cons (ext_mono h0) (VI.mono x) h2 evs_nil he') he) (fun s E vs eg e hv => ?_) hx hg hkk (by decide) he hcall
  obtain ⟨v, r, rfl, ⟨a, rfl, hl⟩, v', r', rfl, ⟨t, rfl⟩, rfl⟩ := hv
  exact bl_call2 Fb G B hd eg hl hk hn
theorem en_br4 {ns : List Int} {x : Int} {k hi : Nat} (S : SS g env M vl fs h0) (G : Gl g mg mb) (B : Bi mg mb) (F : Fns g mg) (hd : A.depth < recursionLimit) (h1 : Ev prog w A env (Ext h0) e1 (VIL ns)) (h2 : Ev prog w A env (Ext h0) e2 (VI x))
    (h3 : Ev prog w A env (Ext h0) e3 (VI 0)) (h4 : Ev prog w A env (Ext h0) e4 (VI hi)) (hk : IsBR ns x hi k) (hn : ns.length ≤ 2 ^ 20)
    (hx : env.kindOf "bisect_right" = some .globalImplicit := by rfl) (hg : env.globals = mainGlobals := by rfl) (hkk : env.scope.kind = .function := by rfl)
    (he : starEach [e1, e2, e3, e4] env = (false, eval e1 env) :: starEach [e2, e3, e4] env := by rfl) (he' : starEach [e2, e3, e4] env = (false, eval e2 env) :: starEach [e3, e4] env := by rfl)
    (he3 : starEach [e3, e4] env = (false, eval e3 env) :: starEach [e4] env := by rfl) (he4 : starEach [e4] env = (false, eval e4 env) :: starEach [] env := by rfl)
    (hcall : eval (.Call (.Name "bisect_right" p) [e1, e2, e3, e4] [] pos) env = (do callWith pos (← eval (.Name "bisect_right" p) env) [] (backTo pos (starEach [e1, e2, e3, e4] env)) (backToKw pos (keywordEach [] env))) := by rfl) :
    Ev prog w A env (Ext h0) (.Call (.Name "bisect_right" p) [e1, e2, e3, e4] [] pos) (VI k) := by
  obtain ⟨f, hf, Fb⟩ := F.br
  obtain ⟨T, D, t0, n, o, m, F', _⟩ := id Fb
  refine en_call S G hf F' (evs_cons (ext_mono h0) (VIL.mono ns) h1 (evs_cons (ext_mono h0) (VI.mono x) h2 (evs_cons (ext_mono h0) (VI.mono 0) h3 (evs_cons (ext_mono h0) (VI.mono hi) h4 evs_nil he4) he3) he') he) (fun s E vs eg e hv => ?_) hx hg hkk (by decide) he hcall
  obtain ⟨v, r, rfl, ⟨a, rfl, hl⟩, v', r', rfl, ⟨t, rfl⟩, v3, r3, rfl, ⟨t3, rfl⟩, v4, r4, rfl, ⟨t4, rfl⟩, rfl⟩ := hv
  exact br_call4 Fb G B hd eg hl hk hn

/-! ### _law_covers -/
def up (ps : List Nat) : List Int := ps.map fun (p : Nat) => (p : Int)
theorem rv_up {ps : List Nat} {j p : Nat} (h : ps[j]? = some p) : rv (up ps) j = p := by simp [rv, up, h]
theorem isBR_cle {ps : List Nat} (hs : ps.Pairwise (· < ·)) {x : Int} {hi : Nat} (hh : hi ≤ ps.length) : IsBR (up ps) x hi (min hi (cle ps x)) := by
  refine ⟨Nat.min_le_left _ _, by simpa [up] using hh, fun j hj => ?_, fun j h1 h2 => ?_⟩
  · have hl : j < ps.length := by omega
    rw [rv_up (List.getElem?_eq_getElem hl)]
    exact (cle_iff hs j _ (List.getElem?_eq_getElem hl)).mp (by omega)
  · have hl : j < ps.length := by omega
    rw [rv_up (List.getElem?_eq_getElem hl)]
    have := mt (cle_iff (x := x) hs j _ (List.getElem?_eq_getElem hl)).mpr (by omega)
    omega
open Classical in
theorem covers_walk {L f : Addr} {cd : Value} {pa : Addr} {r : List Int} {ps : List Nat} {c m : Nat} (G : Gl g mg mb) (B : Bi mg mb) (F : Fns g mg) (hd : A.depth < recursionLimit) (hs : ps.Pairwise (· < ·)) (hps : ∀ p, p ∈ ps ↔ Occ r c p) (hlen : ps.length ≤ 2 ^ 20)
    (hc : c ≤ m) (hm : m ≤ r.length) :
    Tr prog w A (SS g (envI 9 [] L f cd) [] [("places", .ref pa), ("cover", .int (c : Int)), ("size", .int (m : Int))] [.il pa (up ps)]) (execs (bodyAt 9) (envI 9 [] L f cd)) (fun fl h => ∃ v, fl = .ret v ∧ Ext g h ∧ VB (decide (Cov r c m)) h v) := by
  have hup : (up ps).length = ps.length := by simp [up]
  have hz : Occ r c 0 := ⟨by omega, fun j hj => by rw [Nat.zero_add]⟩
  generalize hst : cle ps ((m - c : Nat) : Int) = stop
  have hstl : stop ≤ ps.length := by rw [← hst]; exact cle_le _ _
  have hmc : (m : Int) - (c : Int) = ((m - c : Nat) : Int) := by omega
  refine tr_cons (ts_int (i := (stop : Int)) ⟨rfl, .inl rfl⟩ fun h0 S => ?_) ?_
  · refine en_br2 (x := (m : Int) - (c : Int)) S G B F hd (en_il S (.head _)) (ev_sub (ext_mono h0) (en_int S) (en_int S)) ?_ (by omega)
    have := isBR_cle hs (x := ((m - c : Nat) : Int)) (hi := ps.length) (Nat.le_refl _)
    rw [hst, Nat.min_eq_right hstl, ← hmc] at this
    rw [hup]; exact this
  refine tr_cons (ts_int (i := ((0 : Nat) : Int)) ⟨rfl, .inl rfl⟩ fun h0 S => ev_int) ?_
  refine tr_cons (R := fun h => Cov r c m ∧ SS g (envI 9 [] L f cd) [] [] [] h)
    (Tr.pre (P := fun h => ((0 : Nat) ∈ ps ∧ 0 ≤ m - c ∧ Cov r c (0 + c)) ∧ SS g (envI 9 [] L f cd) [] [("here", .int ((0 : Nat) : Int)), ("stop", .int (stop : Int)), ("places", .ref pa), ("cover", .int (c : Int)), ("size", .int (m : Int))] [.il pa (up ps)] h)
      (fun h S => ⟨⟨(hps 0).mpr hz, by omega, by rw [Nat.zero_add]; exact cov_start (by omega)⟩, S⟩)
      (tr_while (fun (here : Nat) h => (here ∈ ps ∧ here ≤ m - c ∧ Cov r c (here + c)) ∧ SS g (envI 9 [] L f cd) [] [("here", .int (here : Int)), ("stop", .int (stop : Int)), ("places", .ref pa), ("cover", .int (c : Int)), ("size", .int (m : Int))] [.il pa (up ps)] h)
        (fun here => m - here) (fun here => decide ((here : Int) < (m : Int) - (c : Int))) (fun here h h' e q => ⟨q.1, q.2.ext e⟩) ?_ ?_ ?_ 0)) ?_
  · rintro here h0 ⟨_, S⟩
    exact it_lt (ext_mono h0) (en_int S) (ev_sub (ext_mono h0) (en_int S) (en_int S))
  · intro here hb
    refine Tr.of fun ⟨h1, h2, h3⟩ => ?_
    have hb' : here < m - c := by simp only [decide_eq_true_eq] at hb; omega
    obtain ⟨p, a0, ag, ap, al, aS, ah, amax⟩ := covers_step hs (c := c) h1 h2
    rw [hst] at a0 ag
    generalize ha : min stop (cle ps ((here + c : Nat) : Int)) = a at a0 ag
    refine tr_cons (ts_int (i := (a : Int)) ⟨rfl, .inl rfl⟩ fun h0 S => ?_) ?_
    · refine en_br4 (x := (here : Int) + (c : Int)) (hi := stop) S G B F hd (en_il S (.head _)) (ev_add (ext_mono h0) (en_int S) (en_int S)) ev_int (en_int S) ?_ (by omega)
      have := isBR_cle hs (x := ((here + c : Nat) : Int)) hstl
      rw [ha] at this; exact this
    have hit : ∀ {h0 : Heap} {p1 p2 p3 p4 p5 : Pos} {k : Nat}, SS g (envI 9 [] L f cd) [] [("after", .int (a : Int)), ("here", .int (here : Int)), ("stop", .int (stop : Int)), ("places", .ref pa), ("cover", .int (c : Int)), ("size", .int (m : Int))] [.il pa (up ps)] h0 →
        Ev prog w A (envI 9 [] L f cd) (Ext h0) (.Subscript (.Name "places" p1) (.BinOp (.Name "after" p2) .Sub (.Constant (.int 1) k p3) p4) p5) (VI (p : Int)) := fun {h0 _ _ _ _ _ _} S =>
      ev_item (k := (a : Int) - 1) (ext_mono h0) VI.mono (en_il S (.head _)) (ev_sub (ext_mono h0) (en_int S) ev_int) (by omega) (by rw [show ((a : Int) - 1).toNat = a - 1 by omega]; simp [up, ag]) (by rw [hup]; omega)
    refine tr_cons (R := fun h => here < p ∧ SS g (envI 9 [] L f cd) [] [("after", .int (a : Int)), ("here", .int (here : Int)), ("stop", .int (stop : Int)), ("places", .ref pa), ("cover", .int (c : Int)), ("size", .int (m : Int))] [.il pa (up ps)] h)
      (tr_if (b := (p : Int) == (here : Int)) SS.mono (fun h0 S => it_eq (ext_mono h0) (hit S) (en_int S)) (fun hc' => ?_) (fun hc' => tr_nil fun h S => ⟨?_, S⟩)) (Tr.of fun hlt => ?_)
    · have he : p = here := by have := beq_iff_eq.mp hc'; omega
      refine tr_cons (R := fun _ => False) (tr_return (V := fun _ => VB false) (fun h0 S => ev_bool) fun h0 h v S e V => ⟨v, rfl, S.st.keep.trans' e, ?_⟩) (tr_nil fun _ q => q.elim)
      have : ¬ Cov r c m := cov_stuck (here := here) (by omega) fun q hq k1 k2 => he ▸ amax q ((hps q).mpr hq) k1 k2
      simp only [this, decide_false]; exact V
    · have : (p : Int) ≠ here := by simpa using hc'
      omega
    · refine tr_cons (ts_int (i := (p : Int)) ⟨rfl, .inl rfl⟩ fun h0 S => hit S) (tr_nil fun h S => ⟨p, by omega, ⟨ap, aS, cov_more h3 al ah ((hps p).mp ap)⟩, S.recast ⟨rfl, rfl, rfl, rfl, rfl, trivial⟩ ⟨.inl (.head _), trivial⟩⟩)
  · intro here hb
    refine Tr.of fun ⟨h1, h2, h3⟩ => ?_
    have hb' : here + c = m := by simp only [decide_eq_false_iff_not] at hb; omega
    exact tr_nil fun h S => ⟨hb' ▸ h3, S.recast trivial trivial⟩
  · refine Tr.of fun hcov => ?_
    refine tr_cons (R := fun _ => False) (tr_return (V := fun _ => VB true) (fun h0 S => ev_bool) fun h0 h v S e V => ⟨v, rfl, S.st.keep.trans' e, ?_⟩) (tr_nil fun _ q => q.elim)
    simp only [hcov, decide_true]; exact V
open Classical in
theorem covers_call {f pa : Addr} {r : List Int} {ps : List Nat} {c m : Nat} {t1 t2 : Tok} (Ff : IsFn g0 9 f .none .none) (G : Gl g0 mg mb) (B : Bi mg mb) (F : Fns g0 mg) (hd : A.depth + 1 < recursionLimit) (e : Ext g0 s.heap) (hl : LA VI s.heap pa (up ps))
    (hs : ps.Pairwise (· < ·)) (hps : ∀ p, p ∈ ps ↔ Occ r c p) (hlen : ps.length ≤ 2 ^ 20) (hc : c ≤ m) (hm : m ≤ r.length) :
    wpAny (model prog w) A (call (.ref f) [.ref pa, .int c t1, .int m t2]) (fun v s' => Keeps s s' ∧ VB (decide (Cov r c m)) s'.heap v) E s :=
  call_fn (V := VB (decide (Cov r c m))) (binds := [("places", .ref pa), ("cover", .int c t1), ("size", .int m t2)]) Ff G.lim (by omega) e (fun _ _ _ _ _ => BindsTo.of_eq rfl) (by decide) (AllL.all ⟨rfl, rfl, rfl, trivial⟩)
    (fun L cd hL => Tr.pre (P := SS s.heap (envI 9 [] L f cd) [] [("places", .ref pa), ("cover", .int (c : Int)), ("size", .int (m : Int))] [.il pa (up ps)]) (fun h q => SS.start' hL q.1 q.2 ⟨⟨.ref pa, rfl, rfl, rfl⟩, ⟨_, rfl, ⟨t1, rfl⟩, rfl⟩, ⟨_, rfl, ⟨t2, rfl⟩, rfl⟩, trivial⟩ ⟨⟨hl, fun q => nomatch q⟩, trivial⟩)
      (covers_walk (G.ext e) B (F.ext e) hd hs hps hlen hc hm)) rfl rfl rfl
end
end Mine

namespace Mine

section
variable {prog : Program} {w : World} {A : Around} {env : Env} {g0 g h0 : Heap} {s : Shared} {E : Value → Shared → Prop} {mg mb : Str → Option Value} {M : List Addr} {vl : List (Str × VD)} {fs : List Fact} {p pos pos' : Pos} {x : Str} {e : Expr} {Q : Flow → Heap → Prop}

theorem rows_apart {h : Heap} {a : Addr} {xss : List (List Int)} (q : LP (fun xs => VLP (Nw h0) VI xs) h a xss) (n : h0.get? a = none) (S : SS g env M vl fs h0) : LP (InN (a :: M)) h a xss := by
  obtain ⟨vs, ⟨k, pl⟩, i⟩ := q
  have key : ∀ v ∈ vs, ∀ xs, VLP (Nw h0) VI xs h v → InN (a :: M) xs h v := fun v hv xs hx => by
    obtain ⟨b, rfl, pb, nb⟩ := hx
    refine ⟨b, rfl, pb, fun hm => ?_⟩
    rcases List.mem_cons.mp hm with rfl | hm
    · obtain ⟨ws, ⟨k', pw⟩, iw⟩ := pb
      rw [pl] at pw
      have hvs : vs = ws := by
        have := Obj.mk.inj (Option.some.inj pw)
        have e2 := (Data.seq.inj this.2.2.1).1
        simpa using e2
      subst hvs
      have : ∀ {l : List Value} {ys : List Int}, Paired (fun v x => VI x h v) l ys → ∀ v ∈ l, ∃ t u, v = .int t u := fun {l ys} z => by
        induction z with
        | nil => intro v hv; cases hv
        | cons k _ ih =>
          intro v hv
          cases hv with
          | head => obtain ⟨t, rfl⟩ := k; exact ⟨_, t, rfl⟩
          | tail _ hv => exact ih v hv
      obtain ⟨t, u, q⟩ := this iw _ hv
      cases q
    · exact S.offM nb hm
  refine ⟨vs, ⟨k, pl⟩, ?_⟩
  clear pl
  induction i with
  | nil => exact .nil
  | cons k _ ih => exact .cons (key _ (.head _) _ k) (ih fun v hv => key v (.tail _ hv))
/-- a new list of rows -/
theorem ts_new_rows {xss : List (List Int)} (hx : Sto env x) (h : ∀ h0, SS g env M vl fs h0 → Ev prog w A env (Ext h0) e (VLP (Nw h0) (fun xs => VLP (Nw h0) VI xs) xss)) (hs : swapsWith e (some (.Name x pos')) pos.line env = pure false := by rfl) :
    Tr prog w A (SS g env M vl fs) (exec (.Assign [.Name x pos'] e pos) env) (Nx (fun h => ∃ a, ((∀ f ∈ fs, f.addr ≠ a) ∧ a ∉ M) ∧ SS g env (a :: M) ((x, .ref a) :: vl) (.pll a xss :: fs) h) Q) :=
  tr_assign hx (fun h S => S.wr) (V := fun h0 => VLP (Nw h0) (fun xs => VLP (Nw h0) VI xs) xss) h (fun h0 h1 v h' S e' V st => by
    obtain ⟨a, rfl, p, n⟩ := V
    exact ⟨a, ⟨fun f hf => S.ne hf n, S.offM n⟩, ((S.more e' n (let ⟨o, _, _, q, _⟩ := p.get; ⟨o, q⟩)).fact (f := .pll a xss) (rows_apart p n S)).store st rfl⟩) hs

/-- a def whose names are caught is called -/
theorem call_fnC {i : Nat} {f : Addr} {vs : List Value} {binds : List (Str × Value)} {V : Heap → Value → Prop} (F : IsFn g0 i f .none .none) (lim : g0.NoLimit) (hroom : A.depth < recursionLimit) (e : Ext g0 s.heap)
    (hbind : ∀ doc pm an cdv ct, bindArgs (fnD i .none .none doc pm an cdv ct) ⟨vs, []⟩ = pure binds) (hloc : ∀ x ∈ binds, (scopeAt i).names.lookup x.1 = some .local)
    (h : ∀ L cd, s.heap.get? L = none → EnvG s.heap (envI i (cellsFrom (L + 1) (scopeAt i).names []) L f cd) →
      Tr prog w (A.deeper (envI i (cellsFrom (L + 1) (scopeAt i).names []) L f cd)) (fun h => (h.Ns L (bindL (envI i (cellsFrom (L + 1) (scopeAt i).names []) L f cd).kindOf binds fun _ => none) ∧ Wr (envI i (cellsFrom (L + 1) (scopeAt i).names []) L f cd) h) ∧ Ext s.heap h)
        (execs (bodyAt i) (envI i (cellsFrom (L + 1) (scopeAt i).names []) L f cd)) (fun fl h => ∃ v, fl = .ret v ∧ Ext s.heap h ∧ V h v))
    (hco : (scopeAt i).isCoroutine = false) (hgen : (scopeAt i).isGenerator = false) (hk : (scopeAt i).kind = .function) :
    wpAny (model prog w) A (call (.ref f) vs) (fun v s' => Keeps s s' ∧ V s'.heap v) E s := by
  obtain ⟨o, doc, pm, an, cdv, ct, ho, hd, hc⟩ := F
  refine wpAny_call (codeAny_call_cells (fd := fnD i .none .none doc pm an cdv ct) (body := bodyAt i) (binds := binds) hroom (e _ _ ho) hd (lim.keeps e) (hc.keeps e) rfl (hbind _ _ _ _ _) rfl (fun x hx => .inl (hloc x hx)) (fun s₁ I => ?_) hco hgen hk)
  obtain ⟨h₁, tk, rfl, k₁⟩ := I.done
  have cl : ∀ x c, (cellsFrom (s.heap.objs.size + 1) (scopeAt i).names []).lookup x = some c → s.heap.objs.size < c := fun x c q => I.above x c (PySem.mem_of_lookup q)
  refine wpAny_mono (h s.heap.objs.size cdv (get_size _) ⟨get_size _, fun x c q => ⟨?_, ?_⟩, fun x y c q r => ?_⟩ { s with heap := h₁, toks := tk } _ ⟨⟨I.toInCall.ns, ⟨_, I.toInCall.ns⟩, fun x c q => ⟨_, I.cell x c q⟩⟩, k₁⟩) (fun fl s' y => ?_) fun _ _ x => x
  · cases z : s.heap.get? c with
    | none => rfl
    | some o => exact absurd (Heap.lt_size z) (Nat.not_lt.mpr (Nat.le_of_lt (cl x c q)))
  · exact Nat.ne_of_gt (cl x c q)
  · exact name_of_addr I.apart (PySem.mem_of_lookup q) (PySem.mem_of_lookup r)
  · obtain ⟨⟨h2, t2, rfl⟩, v, rfl, e2, hv⟩ := y
    exact ⟨⟨h2, t2, rfl, e2⟩, hv⟩

theorem up_snoc (l : List Nat) (m : Nat) : up (l ++ [m]) = up l ++ [(m : Int)] := by simp [up]
theorem up_filter (l : List Nat) (p : Int → Bool) : (up l).filter p = up (l.filter fun k => p (k : Int)) := by
  unfold up
  rw [List.filter_map]; rfl
theorem up_mem {l : List Nat} {k : Nat} : (k : Int) ∈ up l ↔ k ∈ l := by
  unfold up
  rw [List.mem_map]
  exact ⟨fun ⟨a, b, c⟩ => by have : a = k := by omega
                             exact this ▸ b, fun h => ⟨k, h, rfl⟩⟩
theorem up_mem' {l : List Nat} {k : Int} (h : k ∈ up l) : ∃ n : Nat, k = n ∧ n ∈ l := by
  unfold up at h
  obtain ⟨a, b, c⟩ := List.mem_map.mp h
  exact ⟨a, c.symm, b⟩
noncomputable def ess (r : List Int) (k : Nat) : List (List Int) := (List.range k).map fun m => up (bs r m)
noncomputable def css (r : List Int) (k : Nat) : List (List Int) := (List.range k).map fun m => up (cs r m)
theorem ess_get {r : List Int} {k m : Nat} (h : m < k) : (ess r k)[m]? = some (up (bs r m)) := by simp [ess, h]
theorem css_get {r : List Int} {k m : Nat} (h : m < k) : (css r k)[m]? = some (up (cs r m)) := by simp [css, h]
theorem ess_succ {r : List Int} {k : Nat} : ess r (k + 1) = ess r k ++ [up (bs r k)] := by simp [ess, List.range_succ]
theorem css_succ {r : List Int} {k : Nat} : css r (k + 1) = css r k ++ [up (cs r k)] := by simp [css, List.range_succ]
theorem ess_len {r : List Int} {k : Nat} : (ess r k).length = k := by simp [ess]
theorem css_len {r : List Int} {k : Nat} : (css r k).length = k := by simp [css]

abbrev env7 (L f : Addr) (cd : Value) : Env := envI 7 (cellsFrom (L + 1) (scopeAt 7).names []) L f cd
theorem look {L f : Addr} {cd : Value} : (env7 L f cd).cells = [(("size" : Str), L + 1 + 1), (("last" : Str), L + 1)] := rfl
theorem Cap.mk' {scope : Scope} {cl : List (Str × Addr)} {cvl : List (Str × VD)} (h1 : AllL (fun p => env.cells.lookup p.1 = some p.2) cl)
    (h2 : AllL (fun p => vl.lookup p.1 = some p.2 ∧ env.kindOf p.1 = some .cell ∧ (relabel scope env).names.lookup p.1 = some .cell ∧ cl.lookup p.1 = env.cells.lookup p.1) cvl) : Cap env scope cl vl cvl :=
  ⟨fun y c q => h1.all (y, c) (PySem.mem_of_lookup q), h2.all⟩

theorem ev_comp1x {iter c : Expr} {scope : Scope} {cl : List (Str × Addr)} {cvl : List (Str × VD)} {ks : List Int} {px pe : Pos} (S : SS g env M vl fs h0) (hsrc : Src prog w A env h0 iter ks) (pp : Int → Bool) (K : Cap env scope cl vl cvl) (hsz : ks.length ≤ 2 ^ 20)
    (hclos : closureFor scope env = pure cl)
    (htest : ∀ C h1 k, k ∈ ks → SS g (compEnvC scope cl C env) M ((x, .int k) :: cvl) fs h1 → It prog w A (compEnvC scope cl C env) (Ext h1) c (pp k))
    (hx : scope.names.lookup x = some .local := by rfl) (hcell : ∀ y ∈ scope.names, y.2 ≠ .cell := by decide) (hkind : scope.kind = .function := by rfl)
    (hnames : ∀ y ∈ scope.names, y.2 = .local → scope.names.lookup y.1 = some .local := by decide)
    (hs : ∀ x, foldedSetIterable iter env x = pure x := by intro _; rfl) (hd : (x == ("__debug__" : Str)) = false := by decide) (hc : (x == ("__classdict__" : Str)) = false := by decide) :
    Ev prog w A env (Ext h0) (.ListComp (.Name x pe) [⟨.Name x px, iter, [c], 0⟩] scope pos) (VPL (Nw h0) (ks.filter pp)) := by
  have := ev_comp1 (pos := pos) (px := px) (elt := .Name x pe) S hsrc pp (fun k => k) K hsz hclos htest (fun C h1 k _ _ S1 => en_int S1 (by simp) hkind hd hc) hx hcell hkind hnames hs
  rwa [List.map_id'] at this

theorem byt_walk {L f : Addr} {cd : Value} {tb : Addr} {r : List Int} (G : Gl g mg mb) (B : Bi mg mb) (hh : A.handled = none) (hn : 0 < r.length) (hn2 : r.length ≤ 2 ^ 18) :
    Tr prog w A (SS g (env7 L f cd) [] [("table", .ref tb)] [.il tb (tbl r)]) (execs (bodyAt 7) (env7 L f cd)) (fun fl h => ∃ v, fl = .ret v ∧ Ext g h ∧ VLP (fun _ => True) (fun xss => VLP (fun _ => True) (InN []) xss) [ess r (r.length + 1), css r (r.length + 1)] h v) := by
  have disp : ∀ {h0 : Heap} {p1 p2 : Pos}, Ev prog w A (env7 L f cd) (Ext h0) (.List [.List [] p1] p2) (VLP (Nw h0) (fun xs => VLP (Nw h0) VI xs) [[]]) := fun {h0 _ _} =>
    ev_display (ext_mono h0) nw_ok (fun x => VLP.mono VI.mono _ _) (evs_p_cons (ext_mono h0) (fun x => VLP.mono VI.mono _ _) (ev_display (ext_mono h0) nw_ok VI.mono evs_p_nil (by simp)) evs_p_nil) (by simp)
  have htl : ∀ {h0 : Heap} {M : List Addr} {vl : List (Str × VD)} {fs : List Fact} {p1 p2 p3 : Pos}, SS g (env7 L f cd) M vl fs h0 → Fact.il tb (tbl r) ∈ fs → vl.lookup ("table" : Str) = some (VD.ref tb) → Ev prog w A (env7 L f cd) (Ext h0) (.Call (.Name "len" p1) [.Name "table" p2] [] p3) (VI (r.length : Int)) := fun {h0 _ _ _ p1 p2 p3} S hf hl => by
    have := ev_len (prog := prog) (w := w) (A := A) (pos := p3) (ext_mono h0) VI.mono (en_bi (pos := p1) (x := "len") S G B.len) (en_il (pos := p2) (x := "table") S hf hl) (by rw [tbl_length]; omega)
    rwa [tbl_length] at this
  refine tr_cons (ts_new_rows (xss := [[]]) ⟨rfl, .inl rfl⟩ fun h0 S => disp) (Tr.ex fun En => Tr.of fun hE => ?_)
  refine tr_cons (ts_new_rows (xss := [[]]) ⟨rfl, .inl rfl⟩ fun h0 S => disp) (Tr.ex fun C => Tr.of fun hC => ?_)
  refine tr_cons (ts_new (ns := List.replicate (r.length + 1) 0) ⟨rfl, .inr ⟨rfl, _, rfl⟩⟩ fun h0 S => ?_) (Tr.ex fun La => Tr.of fun hL => ?_)
  · exact ev_rep (k := (r.length : Int) + 1) (ext_mono h0) nw_ok VI.mono (ev_display (N := Nw h0) (ext_mono h0) nw_ok VI.mono (evs_p_cons (ext_mono h0) VI.mono ev_int evs_p_nil) (by simp)) (ev_add (ext_mono h0) (htl S (.tail _ (.tail _ (.head _))) rfl) ev_int) (by omega) (by omega)
  have dEC : En ≠ C := hC.1 (.pll En [[]]) (.head _)
  have dEL : En ≠ La := hL.1 (.pll En [[]]) (.tail _ (.head _))
  have dCL : C ≠ La := hL.1 (.pll C [[]]) (.head _)
  have dtE : tb ≠ En := hE.1 (.il tb (tbl r)) (.head _)
  have dtC : tb ≠ C := hC.1 (.il tb (tbl r)) (.tail _ (.head _))
  have dtL : tb ≠ La := hL.1 (.il tb (tbl r)) (.tail _ (.tail _ (.head _)))
  refine tr_cons (R := SS g (env7 L f cd) [La, C, En] [("ends", .ref En), ("covers", .ref C)] [.pll En (ess r (r.length + 1)), .pll C (css r (r.length + 1))])
    (Tr.pre (P := SS g (env7 L f cd) [La, C, En] [("last", .ref La), ("covers", .ref C), ("ends", .ref En), ("table", .ref tb)] [.pll En (ess r 1), .pll C (css r 1), .ml La (lal r 0), .il tb (tbl r)])
      (fun h S => S.recast ⟨rfl, rfl, rfl, rfl, trivial⟩ ⟨.inl (.tail _ (.tail _ (.head _))), .inl (.tail _ (.head _)), .inr (by rw [lal_zero]; exact LP.la (S.fs (.pl La _) (.head _))), .inl (.tail _ (.tail _ (.tail _ (.head _)))), trivial⟩)
    (ts_for_range (obs := []) (a := 1) (b := (r.length : Int) + 1) (n := r.length) (fun i (x : List (List Int) × List (List Int) × List Int) => x = (ess r (i + 1), css r (i + 1), lal r i))
      (fun x => [("last", .ref La), ("covers", .ref C), ("ends", .ref En), ("table", .ref tb)]) (fun x => [.pll En x.1, .pll C x.2.1, .ml La x.2.2, .il tb (tbl r)]) (ess r 1, css r 1, lal r 0) rfl hh ⟨rfl, .inr ⟨rfl, _, rfl⟩⟩ (by omega) (by split <;> omega)
      (fun h0 S => ev_range2 (ext_mono h0) (en_bi S G B.range) ev_int (ev_add (ext_mono h0) (htl S (.tail _ (.tail _ (.tail _ (.head _)))) rfl) ev_int))
      (fun x => AllL.all ⟨rfl, rfl, rfl, rfl, trivial⟩) ?_ ?_)) ?_
  · rintro it o i x hi rfl
    have hm : (1 : Int) + (i : Int) = ((i + 1 : Nat) : Int) := by omega
    rw [hm]
    have hml : i + 1 ≤ r.length := hi
    have hfl := fl_lt (r := r) (m := i + 1) (by omega)
    have hbl := bs_len (r := r) (m := fl r (i + 1))
    have hcl := cs_len (r := r) (m := fl r (i + 1))
    -- inner = table[size - 1]
    refine tr_cons (ts_int (i := (fl r (i + 1) : Int)) ⟨rfl, .inl rfl⟩ fun h0 S => ?_) ?_
    · exact ev_item (k := ((i + 1 : Nat) : Int) - 1) (ext_mono h0) VI.mono (en_il S (.tail _ (.tail _ (.tail _ (.tail _ (.head _)))))) (ev_sub (ext_mono h0) (en_int S) ev_int) (by omega) (by rw [show (((i + 1 : Nat) : Int) - 1).toNat = i by omega]; exact tbl_get (by omega)) (by rw [tbl_length]; omega)
    -- ends.append(ends[inner] + [size])
    refine tr_cons (ts_append_row (a := En) (z := up (bs r (i + 1))) (fs' := [.ob it o, .pll En (ess r (i + 1) ++ [up (bs r (i + 1))]), .pll C (css r (i + 1)), .ml La (lal r i), .il tb (tbl r)]) (.tail _ (.tail _ (.head _))) (.tail _ (.head _)) (by rw [ess_len]; omega) (fun h0 S => ?_)
      (AllL.all ⟨.inr ⟨.head _, fun q => nomatch q⟩, .inl rfl, .inr ⟨.tail _ (.tail _ (.head _)), fun _ => Ne.symm dEC⟩, .inr ⟨.tail _ (.tail _ (.tail _ (.head _))), fun _ => Ne.symm dEL⟩, .inr ⟨.tail _ (.tail _ (.tail _ (.tail _ (.head _)))), fun _ => dtE⟩, trivial⟩)) ?_
    · rw [bs_step (by omega) hml, up_snoc]
      exact ev_cat (ext_mono h0) nw_ok VI.mono (ev_item (R := InN [La, C, En]) (k := (fl r (i + 1) : Int)) (ext_mono h0) (InN.mono _) (Ev.post (fun h v q => q.la) (en_pll S (.tail _ (.head _)))) (en_int S) (by omega) (by rw [Int.toNat_natCast]; exact ess_get (by omega)) (by rw [ess_len]; omega))
        (ev_display (N := Nw h0) (ext_mono h0) nw_ok VI.mono (evs_p_cons (ext_mono h0) VI.mono (en_int S) evs_p_nil) (by simp)) (by simp [up]; omega)
    rw [← ess_succ]
    -- covers.append([..] + [size])
    refine tr_cons (ts_append_row (a := C) (z := up (cs r (i + 1))) (fs' := [.ob it o, .pll En (ess r (i + 1 + 1)), .pll C (css r (i + 1) ++ [up (cs r (i + 1))]), .ml La (lal r i), .il tb (tbl r)]) (.tail _ (.head _)) (.tail _ (.tail _ (.head _))) (by rw [css_len]; omega) (fun h0 S => ?_)
      (AllL.all ⟨.inr ⟨.head _, fun q => nomatch q⟩, .inr ⟨.tail _ (.head _), fun _ => dEC⟩, .inl rfl, .inr ⟨.tail _ (.tail _ (.tail _ (.head _))), fun _ => Ne.symm dCL⟩, .inr ⟨.tail _ (.tail _ (.tail _ (.tail _ (.head _)))), fun _ => dtC⟩, trivial⟩)) ?_
    · have hcomp : (up (cs r (fl r (i + 1)))).filter (fun k => decide (((i + 1 : Nat) : Int) - k ≤ (la r i k.toNat : Int))) = up ((cs r (fl r (i + 1))).filter fun c => decide (i + 1 - c ≤ la r (i + 1 - 1) c)) := by
        rw [up_filter]
        congr 1
        refine List.filter_congr fun c hc => ?_
        have := (cs_le hc).2
        simp only [Int.toNat_natCast, decide_eq_decide, Nat.add_sub_cancel]
        omega
      rw [cs_step (by omega) hml, up_snoc, ← hcomp]
      refine ev_cat (N1 := Nw h0) (ext_mono h0) nw_ok VI.mono ?_ (ev_display (N := Nw h0) (ext_mono h0) nw_ok VI.mono (evs_p_cons (ext_mono h0) VI.mono (en_int S) evs_p_nil) (by simp)) ?_
      · refine ev_comp1x (ks := up (cs r (fl r (i + 1)))) (cl := [("size", L + 1 + 1), ("last", L + 1)]) (cvl := [("last", .ref La), ("size", .int ((i + 1 : Nat) : Int))]) S (src_list hh (Ev.post (fun h v q => q.la) (ev_item (R := InN [La, C, En]) (k := (fl r (i + 1) : Int)) (ext_mono h0) (InN.mono _) (Ev.post (fun h v q => q.la) (en_pll S (.tail _ (.tail _ (.head _))))) (en_int S) (by omega) (by rw [Int.toNat_natCast]; exact css_get (by omega)) (by rw [css_len]; omega))))
          _ (Cap.mk' ⟨rfl, rfl, trivial⟩ ⟨⟨rfl, rfl, rfl, rfl⟩, ⟨rfl, rfl, rfl, rfl⟩, trivial⟩) (by simp [up]; omega) rfl (fun C' h1 k hk S1 => ?_)
        obtain ⟨c, rfl, hc⟩ := up_mem' hk
        have hcl' := cs_le hc
        exact it_ge (ext_mono h1) (ev_item (k := (c : Int)) (ext_mono h1) VI.mono (en_ml S1 (.tail _ (.tail _ (.tail _ (.head _))))) (en_int S1) (by omega) (by rw [Int.toNat_natCast]; exact lal_get (by omega)) (by rw [lal_length]; omega)) (ev_sub (ext_mono h1) (en_int S1) (en_int S1))
      · have := List.length_filter_le (fun k => decide (((i + 1 : Nat) : Int) - k ≤ (la r i k.toNat : Int))) (up (cs r (fl r (i + 1))))
        simp only [up, List.length_map] at this
        simp only [List.length_cons, List.length_nil, up]; omega
    rw [← css_succ]
    -- for cover in covers[size]: last[cover] = size
    have hlal : lal r i = lap r (i + 1) 0 := by rw [lap_zero]; rfl
    have hcm := cs_len (r := r) (m := i + 1)
    refine tr_cons (R := fun h => ∃ y : List (List Int) × List (List Int) × List Int, y = (ess r (i + 1 + 1), css r (i + 1 + 1), lal r (i + 1)) ∧ SS g (env7 L f cd) [La, C, En] [("last", .ref La), ("covers", .ref C), ("ends", .ref En), ("table", .ref tb)] (.ob it o :: ([] ++ [.pll En y.1, .pll C y.2.1, .ml La y.2.2, .il tb (tbl r)])) h)
      (Tr.pre (P := SS g (env7 L f cd) [La, C, En] [("size", .int ((i + 1 : Nat) : Int)), ("last", .ref La), ("covers", .ref C), ("ends", .ref En), ("table", .ref tb)] [.ob it o, .pll En (ess r (i + 1 + 1)), .pll C (css r (i + 1 + 1)), .ml La (lap r (i + 1) 0), .il tb (tbl r)])
        (fun h S => S.recast ⟨rfl, rfl, rfl, rfl, rfl, trivial⟩ ⟨.inl (.head _), .inl (.tail _ (.head _)), .inl (.tail _ (.tail _ (.head _))), .inl (by rw [← hlal]; exact .tail _ (.tail _ (.tail _ (.head _)))), .inl (.tail _ (.tail _ (.tail _ (.tail _ (.head _))))), trivial⟩)
        (ts_for_list (obs := [.ob it o]) (R := VI) (xs := up (cs r (i + 1))) (F := fun ax => .il ax (up (cs r (i + 1)))) (G := fun ax => ax ∉ [La, C, En]) (C := fun b d fl => d = .int b ∧ fl = []) (V := fun h0 => InN [La, C, En] (up (cs r (i + 1))))
          (fun j (l : List Int) => l = lap r (i + 1) j) (fun l => [("size", .int ((i + 1 : Nat) : Int)), ("last", .ref La), ("covers", .ref C), ("ends", .ref En), ("table", .ref tb)]) (fun l => [.pll En (ess r (i + 1 + 1)), .pll C (css r (i + 1 + 1)), .ml La l, .il tb (tbl r)]) (lap r (i + 1) 0) rfl hh ⟨rfl, .inl rfl⟩ (fun h0 S => ?_)
          (fun h0 h v S e q => by
            obtain ⟨a, e1, e2, e3⟩ := q
            exact ⟨a, e1, e3, LP.la e2, e3⟩) (fun ax h q => q.1) (fun _ => rfl) (fun b h v q => ⟨.int b, [], q, ⟨rfl, rfl⟩, fun f hf => nomatch hf⟩) (fun x => AllL.all ⟨rfl, rfl, rfl, rfl, trivial⟩) ?_ ?_)) (tr_nil fun _ q => q)
    · exact ev_item (R := InN [La, C, En]) (k := ((i + 1 : Nat) : Int)) (ext_mono h0) (InN.mono _) (Ev.post (fun h v q => q.la) (en_pll S (.tail _ (.tail _ (.head _))))) (en_int S) (by omega) (by rw [Int.toNat_natCast]; exact css_get (by omega)) (by rw [css_len]; omega)
    · rintro it2 ax o2 j b d fl l hG hb ⟨rfl, rfl⟩ rfl
      obtain ⟨c, rfl, hc⟩ := up_mem' (List.mem_of_getElem? hb)
      have hcj : (cs r (i + 1))[j]? = some c := by
        unfold up at hb
        rw [List.getElem?_map] at hb
        cases hq : (cs r (i + 1))[j]? with
        | none => rw [hq] at hb; cases hb
        | some c' =>
          rw [hq] at hb
          have : (c' : Int) = c := by simpa using hb
          have : c' = c := by omega
          rw [this]
      have hcl' := cs_le hc
      refine tr_cons (ts_setitem (a := La) (k := (c : Int)) (z := ((i + 1 : Nat) : Int)) (fs' := [.ob it2 o2, .il ax (up (cs r (i + 1))), .ob it o, .pll En (ess r (i + 1 + 1)), .pll C (css r (i + 1 + 1)), .ml La (lap r (i + 1) (j + 1)), .il tb (tbl r)]) (.head _) (.tail _ (.tail _ (.tail _ (.tail _ (.tail _ (.head _)))))) (by rw [lap_length]; omega) (by omega) (by rw [lap_length]; omega) (fun h0 S => en_int S) (fun h0 S => en_int S)
        (AllL.all ⟨.inr ⟨.head _, fun q => nomatch q⟩, .inr ⟨.tail _ (.head _), fun _ q => hG (by rw [show ax = La from q]; exact .head _)⟩, .inr ⟨.tail _ (.tail _ (.head _)), fun q => nomatch q⟩, .inr ⟨.tail _ (.tail _ (.tail _ (.head _))), fun _ => dEL⟩, .inr ⟨.tail _ (.tail _ (.tail _ (.tail _ (.head _)))), fun _ => dCL⟩, .inl ?_, .inr ⟨.tail _ (.tail _ (.tail _ (.tail _ (.tail _ (.tail _ (.head _)))))), fun _ => dtL⟩, trivial⟩)) (tr_nil fun h S => ⟨_, rfl, S.recast ⟨rfl, rfl, rfl, rfl, rfl, trivial⟩ ⟨.inl (.head _), .inl (.tail _ (.head _)), .inl (.tail _ (.tail _ (.head _))), .inl (.tail _ (.tail _ (.tail _ (.head _)))), .inl (.tail _ (.tail _ (.tail _ (.tail _ (.head _))))), .inl (.tail _ (.tail _ (.tail _ (.tail _ (.tail _ (.head _)))))), .inl (.tail _ (.tail _ (.tail _ (.tail _ (.tail _ (.tail _ (.head _))))))), trivial⟩⟩)
      rw [Int.toNat_natCast, lap_set hcj (by omega)]
    · rintro l h rfl S
      refine ⟨_, rfl, S.recast ⟨rfl, rfl, rfl, rfl, trivial⟩ ⟨.inl (.head _), .inl (.tail _ (.head _)), .inl (.tail _ (.tail _ (.head _))), .inl ?_, .inl (.tail _ (.tail _ (.tail _ (.tail _ (.head _))))), trivial⟩⟩
      rw [← lap_all (by omega) hml, show (up (cs r (i + 1))).length = (cs r (i + 1)).length by simp [up]]
      exact .tail _ (.tail _ (.tail _ (.head _)))
  · rintro x h rfl S
    exact S.recast ⟨rfl, rfl, trivial⟩ ⟨.inl (.head _), .inl (.tail _ (.head _)), trivial⟩
  · refine tr_cons (R := fun _ => False) (tr_return (V := fun _ => VLP (fun _ => True) (fun xss => VLP (fun _ => True) (InN []) xss) [ess r (r.length + 1), css r (r.length + 1)]) (fun h0 S => ?_) fun h0 h v S e V => ⟨v, rfl, S.st.keep.trans' e, V⟩) (tr_nil fun _ q => q.elim)
    have wk : ∀ {h : Heap} {v : Value} {a : Addr} {xss : List (List Int)}, VLP (fun b => b = a) (InN [La, C, En]) xss h v → VLP (fun _ => True) (InN []) xss h v := fun q =>
      VLP.mv q (fun _ _ _ _ e => e) (fun _ _ _ _ => trivial) fun y v q => VLP.mv q (fun _ _ _ _ e => e) (fun _ _ _ _ q => nomatch q) fun _ _ q => q
    exact Ev.post (fun h v q => VLP.mv q (fun _ _ _ _ e => e) (fun _ _ _ _ => trivial) fun _ _ q => q) (ev_display (R := fun xss => VLP (fun _ => True) (InN []) xss) (N := Nw h0) (ext_mono h0) nw_ok (fun x => VLP.mono (InN.mono _) _ _)
      (evs_p_cons (ext_mono h0) (fun x => VLP.mono (InN.mono _) _ _) (Ev.post (fun h v q => wk q) (en_pll S (.head _))) (evs_p_cons (ext_mono h0) (fun x => VLP.mono (InN.mono _) _ _) (Ev.post (fun h v q => wk q) (en_pll S (.tail _ (.head _)))) evs_p_nil)) (by simp))
theorem byt_call {f tb : Addr} {r : List Int} (F : IsFn g0 7 f .none .none) (G : Gl g0 mg mb) (B : Bi mg mb) (hh : A.handled = none) (hd : A.depth < recursionLimit) (e : Ext g0 s.heap) (hl : LA VI s.heap tb (tbl r)) (hn : 0 < r.length) (hn2 : r.length ≤ 2 ^ 18) :
    wpAny (model prog w) A (call (.ref f) [.ref tb]) (fun v s' => Keeps s s' ∧ VLP (fun _ => True) (fun xss => VLP (fun _ => True) (InN []) xss) [ess r (r.length + 1), css r (r.length + 1)] s'.heap v) E s :=
  call_fnC (V := VLP (fun _ => True) (fun xss => VLP (fun _ => True) (InN []) xss) [ess r (r.length + 1), css r (r.length + 1)]) (binds := [("table", .ref tb)]) F G.lim hd e (fun _ _ _ _ _ => rfl) (AllL.all ⟨rfl, trivial⟩)
    (fun L cd hL hE => Tr.pre (P := SS s.heap (env7 L f cd) [] [("table", .ref tb)] [.il tb (tbl r)]) (fun h q => ⟨⟨q.2, fun x d z => by
        obtain ⟨rfl, rfl⟩ : x = "table" ∧ d = .ref tb := by
          have := lookup_mem z
          simpa using this
        exact ⟨.ref tb, .inl ⟨rfl, _, q.1.1, rfl⟩, rfl⟩⟩, q.1.2, hE, (fun a q => by cases q), AllL.all ⟨⟨hl.ext VI.mono q.2, fun q => nomatch q⟩, trivial⟩⟩) (byt_walk (G.ext e) B hh hn hn2)) rfl rfl rfl
end
end Mine

namespace Mine

section
variable {r : List Int} {m k i : Nat}
noncomputable def bsl (r : List Int) : List (List Int) := (ess r (r.length + 1)).drop 1
theorem bsl_len : (bsl r).length = r.length := by simp [bsl, ess_len]
theorem bsl_get (h : i < r.length) : (bsl r)[i]? = some (up (bs r (i + 1))) := by
  unfold bsl
  rw [List.getElem?_drop, ess_get (by omega), Nat.add_comm]
theorem cn_cle (h1 : 1 ≤ m) (hm : m ≤ r.length) : ∀ k : Nat, k ≤ r.length → cn (m : Int) (bsl r) k = cle (occ r m) ((k : Int) - m)
  | 0, _ => by rw [cle_neg (by omega)]; simp [cn]
  | k + 1, hk => by
    rw [cn_succ (bsl_get (show k < r.length by omega)), cn_cle h1 hm k (by omega)]
    have e : (((k + 1 : Nat) : Int) - m) = ((k : Int) - m) + 1 := by omega
    rw [e, cle_succ sorted_occ]
    congr 1
    have q : ((m : Int) ∈ up (bs r (k + 1))) ↔ ∃ p ∈ occ r m, (p : Int) = (k : Int) - m + 1 := by
      rw [up_mem, mem_bs]
      constructor
      · rintro ⟨⟨a, b⟩, c, d⟩
        exact ⟨k + 1 - m, (mem_occ h1).mpr d, by omega⟩
      · rintro ⟨p, hp, e⟩
        have hp' := (mem_occ h1).mp hp
        have : p = k + 1 - m := by omega
        subst this
        exact ⟨⟨h1, by omega⟩, by omega, hp'⟩
    by_cases z : (m : Int) ∈ up (bs r (k + 1))
    · rw [if_pos z, if_pos (q.mp z)]
    · rw [if_neg z, if_neg (fun y => z (q.mpr y))]
noncomputable def ct (r : List Int) (m : Nat) : List Int := cns (m : Int) (bsl r)
theorem ct_len : (ct r m).length = r.length := by simp [ct, cns, bsl_len]
theorem ct_get (h1 : 1 ≤ m) (hm : m ≤ r.length) (h : i < r.length) : (ct r m)[i]? = some (cle (occ r m) ((i : Int) + 1 - m) : Int) := by
  unfold ct cns
  rw [List.getElem?_map, bsl_len, List.getElem?_range h]
  simp only [Option.map_some]
  rw [cn_cle h1 hm (i + 1) h]
  have e : (((i + 1 : Nat) : Int) - m) = (i : Int) + 1 - m := by omega
  rw [e]
theorem ct_rv (h1 : 1 ≤ m) (hm : m ≤ r.length) (h : i < r.length) : rv (ct r m) i = (cle (occ r m) ((i : Int) + 1 - m) : Int) := by
  unfold rv; rw [ct_get h1 hm h]; rfl
theorem ct_last (h1 : 1 ≤ m) (hm : m ≤ r.length) : (ct r m)[(ct r m).length - 1]? = some ((occ r m).length : Int) := by
  rw [ct_len, ct_get h1 hm (by omega), cle_all]
  intro p hp
  have := ((mem_occ h1).mp hp).1
  omega
theorem ct_br (h1 : 1 ≤ m) (hm : m ≤ r.length) : IsBR (ct r m) (k : Int) (ct r m).length (vk r m k) := by
  obtain ⟨a, b, c⟩ := vk_spec (k := k) h1 hm
  rw [ct_len]
  refine ⟨a, by rw [ct_len]; exact Nat.le_refl _, fun j hj => ?_, fun j h2 h3 => ?_⟩
  · rw [ct_rv h1 hm (by omega)]; have := b j hj; omega
  · rw [ct_rv h1 hm h3]; have := c j h2 h3; omega
theorem ct_bl (h1 : 1 ≤ m) (hm : m ≤ r.length) : IsBL (ct r m) ((k : Int) + 1) (ct r m).length (vk r m k) := by
  obtain ⟨a, b, c, d⟩ := ct_br (k := k) h1 hm
  exact ⟨a, b, fun j hj => by have := c j hj; omega, fun j h2 h3 => by have := d j h2 h3; omega⟩
noncomputable def due (r : List Int) (m : Nat) : List Int := up (occ r m) ++ [(r.length : Int) + 1 - m]
theorem due_eq (h1 : 1 ≤ m) : ((List.range ((occ r m).length + 1)).map fun (i : Nat) => (0 : Int) + (i : Int)).map (fun k => (vk r m k.toNat : Int) + 1 - m) = due r m := by
  rw [List.map_map]
  apply List.ext_getElem (by simp [due, up])
  intro j h2 h3
  simp only [List.getElem_map, List.getElem_range, Function.comp]
  have hj : j ≤ (occ r m).length := by simp at h2; omega
  rw [show ((0 : Int) + (j : Int)).toNat = j by omega, vk_val h1 hj]
  have e : (due r m)[j]? = some ((due r m)[j]'h3) := List.getElem?_eq_getElem h3
  have e2 : (List.map (fun (p : Nat) => (p : Int)) (occ r m) ++ [(r.length : Int) + 1 - m])[j]? = some ((due r m)[j]'h3) := e
  rw [e2]; rfl
open Classical in
theorem cov_list (hm : m ≤ r.length) : ((List.range m).map fun (i : Nat) => (1 : Int) + (i : Int)).filter (fun k => decide (Cov r k.toNat m)) = up (cs r m) := by
  unfold cs sel up
  rw [show ((List.range m).map fun (i : Nat) => (1 : Int) + (i : Int)) = ((List.range m).map (· + 1)).map (fun (p : Nat) => (p : Int)) by
    rw [List.map_map]; congr 1; funext i; simp only [Function.comp]; omega]
  rw [List.filter_map]
  congr 1
theorem occ_list (h1 : 1 ≤ m) (hm : m ≤ r.length) : ((List.range r.length).map fun (i : Nat) => (0 : Int) + (i : Int)).filter (fun k => decide ((r.take (k + (m : Int)).toNat).drop k.toNat = r.take ((m : Int)).toNat)) = up (occ r m) := by
  unfold occ up
  rw [show ((List.range r.length).map fun (i : Nat) => (0 : Int) + (i : Int)) = (List.range r.length).map (fun (p : Nat) => (p : Int)) by
    congr 1; funext i; omega]
  rw [List.filter_map]
  congr 1
  refine List.filter_congr fun p _ => ?_
  simp only [Function.comp, Int.toNat_natCast]
  rw [show ((p : Int) + (m : Int)).toNat = p + m by omega]
  exact decide_eq_decide.mpr (slice_occ h1 hm)
theorem none_list {ks : List Int} : ks.filter (fun _ => false) = [] := by simp
/-- the places of the first k sizes -/
noncomputable def pls (r : List Int) (k : Nat) : List (List Int) := (List.range k).map fun j => up (occ r (j + 1))
theorem pls_len : (pls r k).length = k := by simp [pls]
theorem pls_get (h : i < k) : (pls r k)[i]? = some (up (occ r (i + 1))) := by simp [pls, h]
theorem pls_succ : pls r (k + 1) = pls r k ++ [up (occ r (k + 1))] := by simp [pls, List.range_succ]
end
end Mine

namespace Mine

section
variable {prog : Program} {w : World} {A : Around} {env : Env} {g0 g h0 : Heap} {s : Shared} {E : Value → Shared → Prop} {mg mb : Str → Option Value} {M : List Addr} {vl : List (Str × VD)} {fs : List Fact} {p pos pos' : Pos} {x : Str} {e : Expr} {Q : Flow → Heap → Prop}

/-- a list of ints, new or not -/
theorem ts_ml {ns : List Int} (hx : Sto env x) (h : ∀ h0, SS g env M vl fs h0 → Ev prog w A env (Ext h0) e (VIL ns)) (hs : swapsWith e (some (.Name x pos')) pos.line env = pure false := by rfl) :
    Tr prog w A (SS g env M vl fs) (exec (.Assign [.Name x pos'] e pos) env) (Nx (fun h => ∃ a, SS g env M ((x, .ref a) :: vl) (.ml a ns :: fs) h) Q) :=
  tr_assign hx (fun h S => S.wr) (V := fun _ => VIL ns) h (fun h0 h1 v h' S e' V st => by
    obtain ⟨a, rfl, p⟩ := V
    exact ⟨a, ((S.ext e').fact (f := .ml a ns) p).store st rfl⟩) hs
/-- two lists of rows out of one -/
theorem ts_unpack {x y : Str} {px py tp : Pos} {k : Nat} {xss yss : List (List Int)} {N : Addr → Prop} (hh : A.handled = none) (hx : Sto env x) (hy : Sto env y)
    (h : ∀ h0, SS g env [] vl fs h0 → Ev prog w A env (Ext h0) e (VLP N (fun xss => VLP (fun _ => True) (InN []) xss) [xss, yss]))
    (hs : swapsWithSole [.Tuple [.Name x px, .Name y py] k tp] e pos.line env = pure false := by rfl)
    (hw : swappedStores [.Tuple [.Name x px, .Name y py] k tp] e env = pure none := by rfl) :
    Tr prog w A (SS g env [] vl fs) (exec (.Assign [.Tuple [.Name x px, .Name y py] k tp] e pos) env) (Nx (fun h => ∃ a b, SS g env [] ((y, .ref b) :: (x, .ref a) :: vl) (.pll b yss :: .pll a xss :: fs) h) Q) := fun s E S => by
  refine Assign_Tuple ((h _ S).use (Ext.rfl' _) fun v s1 k1 y1 => ?_) hs hw
  have S1 := S.ext (keeps_ext k1)
  obtain ⟨a, rfl, ⟨vs, pl, i⟩, _⟩ := y1
  cases i with
  | @cons v1 _ _ _ hv1 i =>
    cases i with
    | @cons v2 _ _ _ hv2 i =>
      cases i
      obtain ⟨a1, rfl, p1, _⟩ := hv1
      obtain ⟨a2, rfl, p2, _⟩ := hv2
      rw [assign_Tuple]
      refine wpAny_bind (wpAny_standAt ?_)
      unfold unpack
      show wpAny (model prog w) A (holding [.ref a] (unpackItems (.ref a) 2 none) >>= _) _ _ s1
      refine wpAny_bind (wpAny_holding (kun_itemsOf (items := #[Value.ref a1, Value.ref a2]) hh pl.isList fun h' he => ?_))
      have e2 : Ext s1.heap h' := fun b o q => he b o (fun z => by rw [z, get_size] at q; cases q) q
      have S2 := S1.ext e2
      show wpAny (model prog w) A (holding [Value.ref a2] (assign (.Name x px) env (.ref a1)) >>= fun _ => holding [] (assign (.Name y py) env (.ref a2)) >>= fun _ => pure ()) _ _ _
      have S3 := (S2.fact (f := .pll a1 xss) (LP.ext p1 (InN.mono _) e2)).fact (f := .pll a2 yss) (LP.ext p2 (InN.mono _) e2)
      refine wpAny_bind (wpAny_holding (wpAny_assign_Name (wpAny_mono (store_ok hx S3.wr) (fun _ s2 z2 => ?_) fun _ _ x => x)))
      have S4 := S3.store z2.2 (d := .ref a1) rfl
      refine wpAny_bind (wpAny_holding (wpAny_assign_Name (wpAny_mono (store_ok hy S4.wr) (fun _ s3 z3 => ?_) fun _ _ x => x)))
      exact wpAny_pure ⟨(((Kt.of k1).trans' ⟨h', s1.toks, rfl⟩).trans' z2.1).trans' z3.1, a1, a2, S4.store z3.2 (d := .ref a2) rfl⟩
end
end Mine

namespace Mine

abbrev env10 (L f : Addr) (cd : Value) : Env := envI 10 (cellsFrom (L + 1) (scopeAt 10).names []) L f cd
theorem look10 {L f : Addr} {cd : Value} : (env10 L f cd).cells = [(("counts" : Str), L + 1 + 1 + 1 + 1 + 1), (("size" : Str), L + 1 + 1 + 1 + 1), (("places" : Str), L + 1 + 1 + 1), (("table" : Str), L + 1 + 1), (("row" : Str), L + 1)] := rfl

section
variable {prog : Program} {w : World} {A : Around} {g0 g h0 : Heap} {s : Shared} {E : Value → Shared → Prop} {mg mb : Str → Option Value}

theorem It.cast {env : Env} {P : Heap → Prop} {e : Expr} {b b' : Bool} (q : b = b') (h : It prog w A env P e b) : It prog w A env P e b' := q ▸ h
theorem law_walk {L f : Addr} {cd : Value} {sc : Addr} {ns : List Int} (G : Gl g mg mb) (B : Bi mg mb) (F : Fns g mg) (hh : A.handled = none) (hd : A.depth + 1 < recursionLimit) (hu : A.units + 64 < cLine) (hn : ns.length ≤ 63) :
    Tr prog w A (SS g (env10 L f cd) [] [("script", .ref sc)] [.il sc ns]) (execs (bodyAt 10) (env10 L f cd)) (fun fl h => ∃ v, fl = .ret v ∧ Ext g h ∧ VB true h v) := by
  -- row = _law_row(script)
  obtain ⟨f6, m6, F6⟩ := F.row
  obtain ⟨f1, m1, F1⟩ := F.tbl
  obtain ⟨f7, m7, F7⟩ := F.byt
  obtain ⟨f8, m8, F8⟩ := F.cnt
  obtain ⟨f9, m9, F9⟩ := F.cov
  refine tr_cons (R := fun h => ∃ r : List Int, (1 ≤ r.length ∧ r.length ≤ 10) ∧ ∃ a, SS g (env10 L f cd) [] [("row", .ref a)] [.ml a r] h)
    (tr_assign (V := fun _ h v => ∃ r : List Int, (1 ≤ r.length ∧ r.length ≤ 10) ∧ VIL r h v) ⟨rfl, .inr ⟨rfl, _, rfl⟩⟩ (fun h S => S.wr) (fun h0 S => ?_) (fun h0 h1 v h' S e' V st => ?_)) (Tr.ex fun r => Tr.of fun hr => Tr.ex fun ra => ?_)
  · refine en_call S G m6 F6 (evs_cons (ext_mono h0) (VIL.mono ns) (en_il S (.head _)) evs_nil) (fun s E vs eg e hv => ?_)
    obtain ⟨v, r, rfl, ⟨a, rfl, hl⟩, rfl⟩ := hv
    exact row_call F6 G B hh (by omega) eg hl hn
  · obtain ⟨r, hr, a, rfl, p⟩ := V
    exact ⟨r, hr, a, (((S.ext e').fact (f := .ml a r) p).store st (d := .ref a) rfl).recast ⟨rfl, trivial⟩ ⟨.inl (.head _), trivial⟩⟩
  -- table = _generate_overlap_table(row)
  refine tr_cons (ts_ml (ns := tbl r) ⟨rfl, .inr ⟨rfl, _, rfl⟩⟩ fun h0 S => ?_) (Tr.ex fun tb => ?_)
  · refine en_call S G m1 F1 (evs_cons (ext_mono h0) (VIL.mono r) (en_ml S (.head _)) evs_nil) (fun s E vs eg e hv => ?_)
    obtain ⟨v, r', rfl, ⟨a, rfl, hl⟩, rfl⟩ := hv
    exact table_call F1 G B hh (by omega) eg hl (by omega) (by omega)
  have tl : (tbl r).length = r.length := tbl_length
  -- if type(table) is not list or len(table) != len(row)
  refine tr_cons (R := SS g (env10 L f cd) [] [("table", .ref tb), ("row", .ref ra)] [.ml tb (tbl r), .ml ra r])
    (tr_if (b := false || (((tbl r).length : Int) != (r.length : Int))) SS.mono (fun h0 S => ?_) (fun hb => ?_) (fun _ => tr_nil fun h S => S)) ?_
  · exact it_or2 (ext_mono h0) (it_isnot_type (T := "list") (ext_mono h0) (ev_type (T := "list") (V1 := VIL (tbl r)) (ext_mono h0) (en_bi S G B.type) (VIL.mono _) (en_ml S (.head _)) (fun s v q => by
        obtain ⟨a, rfl, vs, hl, _⟩ := q
        exact hl.typeIs) (by decide)) (en_bi S G B.list))
      (fun _ => it_ne (ext_mono h0) (ev_len (ext_mono h0) VI.mono (en_bi S G B.len) (en_ml S (.head _)) (by omega)) (ev_len (ext_mono h0) VI.mono (en_bi S G B.len) (en_ml S (.tail _ (.head _))) (by omega)))
  · rw [tl] at hb; simp at hb
  -- the table's numbers
  refine tr_cons (R := SS g (env10 L f cd) [] [("table", .ref tb), ("row", .ref ra)] [.ml tb (tbl r), .ml ra r])
    (tr_if (b := !decide (((List.range r.length).map fun (i : Nat) => (0 : Int) + (i : Int)).filter (fun _ => false) = [])) SS.mono (fun h0 S => ?_) (fun hb => ?_) (fun _ => tr_nil fun h S => S)) ?_
  · refine it_ne_list (ext_mono h0) hu (Ev.post (fun h v q => q.la) (ev_comp1x (cl := [("table", L + 1 + 1)]) (cvl := [("table", .ref tb)]) S (src_range hh (by omega) (by split <;> omega) (ev_range1 (n := (r.length : Int)) (ext_mono h0) (en_bi S G B.range) (ev_len (ext_mono h0) VI.mono (en_bi S G B.len) (en_ml S (.tail _ (.head _))) (by omega))))
      (fun _ => false) (Cap.mk' ⟨rfl, trivial⟩ ⟨⟨rfl, rfl, rfl, rfl⟩, trivial⟩) (by simp; omega) rfl (fun C' h1 k hk S1 => ?_))) (Ev.post (fun h v q => q.la) (ev_display (N := Nw h0) (ext_mono h0) nw_ok VI.mono evs_p_nil (by simp)))
    obtain ⟨j, hj, rfl⟩ := List.mem_map.mp hk
    have hjl := List.mem_range.mp hj
    have hfl := fl_lt (r := r) (m := j + 1) (by omega)
    have hit : ∀ {p1 p2 p3 : Pos}, Ev prog w A (compEnvC _ _ C' (env10 L f cd)) (Ext h1) (.Subscript (.Name "table" p1) (.Name "k" p2) p3) (VI (fl r (j + 1) : Int)) := fun {_ _ _} =>
      ev_item (k := 0 + (j : Int)) (ext_mono h1) VI.mono (en_ml S1 (.head _)) (en_int S1) (by omega) (by rw [show ((0 : Int) + (j : Int)).toNat = j by omega]; exact tbl_get hjl) (by omega)
    have e : (false || !(decide ((0 : Int) ≤ (fl r (j + 1) : Int)) && decide ((fl r (j + 1) : Int) ≤ 0 + (j : Int)))) = false := by
      rw [decide_eq_true (show (0 : Int) ≤ (fl r (j + 1) : Int) by omega), decide_eq_true (show (fl r (j + 1) : Int) ≤ 0 + (j : Int) by omega)]; rfl
    refine It.cast e (it_or2 (ext_mono h1) ?_ (fun _ => ?_))
    · exact it_isnot_type (T := "int") (ext_mono h1) (ev_type (T := "int") (V1 := VI (fl r (j + 1) : Int)) (ext_mono h1) (en_bi S1 G B.type) (VI.mono _) hit (fun s v q => by
        obtain ⟨t, rfl⟩ := q
        exact typeIs_int s _ t) (by decide)) (en_bi S1 G B.int)
    · exact it_not (it_le_le (ext_mono h1) ev_int hit (en_int S1))
  · rw [none_list] at hb; simp at hb
  -- ends, covers = _law_by_table(table)
  refine tr_cons (ts_unpack (N := fun _ => True) (xss := ess r (r.length + 1)) (yss := css r (r.length + 1)) hh ⟨rfl, .inl rfl⟩ ⟨rfl, .inl rfl⟩ fun h0 S => ?_) (Tr.ex fun En => Tr.ex fun C => ?_)
  · refine en_call S G m7 F7 (evs_cons (ext_mono h0) (VIL.mono _) (en_ml S (.head _)) evs_nil) (fun s E vs eg e hv => ?_)
    obtain ⟨v, r', rfl, ⟨a, rfl, hl⟩, rfl⟩ := hv
    exact byt_call F7 G B hh (by omega) eg hl (by omega) (by omega)
  -- places = []
  refine tr_cons (ts_new_rows (xss := []) ⟨rfl, .inr ⟨rfl, _, rfl⟩⟩ fun h0 S => ev_display (ext_mono h0) nw_ok (fun x => VLP.mono VI.mono _ _) evs_p_nil (by simp)) (Tr.ex fun P => Tr.of fun hP => ?_)
  have dCP : C ≠ P := hP.1 (.pll C _) (.head _)
  have dEP : En ≠ P := hP.1 (.pll En _) (.tail _ (.head _))
  have dtP : tb ≠ P := hP.1 (.ml tb _) (.tail _ (.tail _ (.head _)))
  have drP : ra ≠ P := hP.1 (.ml ra _) (.tail _ (.tail _ (.tail _ (.head _))))
  refine tr_cons (R := SS g (env10 L f cd) [P] [] [])
    (Tr.pre (P := SS g (env10 L f cd) [P] [("places", .ref P), ("covers", .ref C), ("ends", .ref En), ("table", .ref tb), ("row", .ref ra)] [.pll P (pls r 0), .pll C (css r (r.length + 1)), .pll En (ess r (r.length + 1)), .ml tb (tbl r), .ml ra r]) (fun h S => S)
      (ts_for_range (obs := []) (a := 1) (b := (r.length : Int) + 1) (n := r.length) (fun i (x : List (List Int)) => x = pls r i) (fun x => [("places", .ref P), ("covers", .ref C), ("ends", .ref En), ("table", .ref tb), ("row", .ref ra)])
        (fun x => [.pll P x, .pll C (css r (r.length + 1)), .pll En (ess r (r.length + 1)), .ml tb (tbl r), .ml ra r]) (pls r 0) rfl hh ⟨rfl, .inr ⟨rfl, _, rfl⟩⟩ (by omega) (by split <;> omega)
        (fun h0 S => ev_range2 (ext_mono h0) (en_bi S G B.range) ev_int (ev_add (ext_mono h0) (ev_len (ext_mono h0) VI.mono (en_bi S G B.len) (en_ml S (.tail _ (.tail _ (.tail _ (.tail _ (.head _)))))) (by omega)) ev_int))
        (fun x => AllL.all ⟨rfl, rfl, rfl, rfl, rfl, trivial⟩) ?_ (fun x h _ S => S.recast trivial trivial))) ?_
  rotate_left
  · exact tr_cons (R := fun _ => False) (tr_return (V := fun _ => VB true) (fun h0 S => ev_bool) fun h0 h v S e V => ⟨v, rfl, S.st.keep.trans' e, V⟩) (tr_nil fun _ q => q.elim)
  rintro it o i x hi rfl
  have hm : (1 : Int) + (i : Int) = ((i + 1 : Nat) : Int) := by omega
  rw [hm]
  have hm1 : 1 ≤ i + 1 := by omega
  have hml : i + 1 ≤ r.length := hi
  have hol := occ_len (r := r) (c := i + 1)
  -- places.append([..])
  refine tr_cons (ts_append_row (a := P) (z := up (occ r (i + 1))) (fs' := [.ob it o, .pll P (pls r i ++ [up (occ r (i + 1))]), .pll C (css r (r.length + 1)), .pll En (ess r (r.length + 1)), .ml tb (tbl r), .ml ra r]) (.head _) (.tail _ (.head _)) (by rw [pls_len]; omega) (fun h0 S => ?_)
    (AllL.all ⟨.inr ⟨.head _, fun q => nomatch q⟩, .inl rfl, .inr ⟨.tail _ (.tail _ (.head _)), fun _ => dCP⟩, .inr ⟨.tail _ (.tail _ (.tail _ (.head _))), fun _ => dEP⟩, .inr ⟨.tail _ (.tail _ (.tail _ (.tail _ (.head _)))), fun _ => dtP⟩, .inr ⟨.tail _ (.tail _ (.tail _ (.tail _ (.tail _ (.head _))))), fun _ => drP⟩, trivial⟩)) ?_
  · rw [← occ_list hm1 hml]
    refine ev_comp1x (cl := [("size", L + 1 + 1 + 1 + 1), ("row", L + 1)]) (cvl := [("row", .ref ra), ("size", .int ((i + 1 : Nat) : Int))]) S (src_range hh (by omega) (by split <;> omega) (ev_range1 (n := (r.length : Int)) (ext_mono h0) (en_bi S G B.range) (ev_len (ext_mono h0) VI.mono (en_bi S G B.len) (en_ml S (.tail _ (.tail _ (.tail _ (.tail _ (.tail _ (.head _))))))) (by omega))))
      _ (Cap.mk' ⟨rfl, rfl, trivial⟩ ⟨⟨rfl, rfl, rfl, rfl⟩, ⟨rfl, rfl, rfl, rfl⟩, trivial⟩) (by simp; omega) rfl (fun C' h1 k hk S1 => ?_)
    obtain ⟨j, hj, rfl⟩ := List.mem_map.mp hk
    have hjl := List.mem_range.mp hj
    refine it_eq_list (ext_mono h1) hu (Ev.post (fun h v q => q.la) (ev_slice (N := Nw h1) (ext_mono h1) VI.mono nw_ok (en_ml S1 (.tail _ (.tail _ (.tail _ (.tail _ (.tail _ (.head _))))))) (part_some (en_int S1)) (part_some (ev_add (ext_mono h1) (en_int S1) (en_int S1))) (by omega) (slice_run (by omega) (by omega))))
      (Ev.post (fun h v q => q.la) (ev_slice (N := Nw h1) (ext_mono h1) VI.mono nw_ok (en_ml S1 (.tail _ (.tail _ (.tail _ (.tail _ (.tail _ (.head _))))))) part_none (part_some (en_int S1)) (by omega) (slice_upto (by omega))))
  rw [← pls_succ]
  -- due = places[-1] + [len(row) + 1 - size]
  refine tr_cons (ts_new2 (ns := due r (i + 1)) ⟨rfl, .inl rfl⟩ fun h0 S => ?_) (Tr.ex fun du => ?_)
  · refine ev_cat (ext_mono h0) nw_ok VI.mono (ev_item_last (R := InN [P]) (xs := pls r (i + 1)) (ext_mono h0) (InN.mono _) (Ev.post (fun h v q => q.la) (en_pll S (.tail _ (.head _)))) (ev_neg ev_int) (by rw [pls_len]; exact pls_get (by omega)))
      (ev_display (N := Nw h0) (ext_mono h0) nw_ok VI.mono (evs_p_cons (ext_mono h0) VI.mono (ev_sub (ext_mono h0) (ev_add (ext_mono h0) (ev_len (ext_mono h0) VI.mono (en_bi S G B.len) (en_ml S (.tail _ (.tail _ (.tail _ (.tail _ (.tail _ (.head _))))))) (by omega)) ev_int) (en_int S)) evs_p_nil) (by simp)) (by simp [up]; omega)
  -- counts = _law_counts(ends, size)
  refine tr_cons (ts_ml (ns := ct r (i + 1)) ⟨rfl, .inr ⟨rfl, _, rfl⟩⟩ fun h0 S => ?_) (Tr.ex fun ca => ?_)
  · refine en_call S G m8 F8 (evs_cons (ext_mono h0) (VLP.mono (InN.mono _) (fun b => b = En) (ess r (r.length + 1))) (Ev.post (fun h v q => VLP.mv q (fun _ _ _ _ e => e) (fun _ _ n _ => n) fun y v q => VLP.mv q (fun _ _ _ _ e => e) (fun _ _ _ _ => List.not_mem_nil) fun _ _ q => q) (en_pll S (.tail _ (.tail _ (.tail _ (.tail _ (.head _))))))) (evs_cons (ext_mono h0) (VI.mono ((i + 1 : Nat) : Int)) (en_int S) evs_nil)) (fun s E vs eg e hv => ?_)
    obtain ⟨v, r', rfl, ⟨a, rfl, hl, _⟩, v', r'', rfl, ⟨t, rfl⟩, rfl⟩ := hv
    exact counts_call F8 G hh (by omega) eg hl (by rw [ess_len]; omega)
  have hdue : (due r (i + 1)).length ≤ 2 ^ 20 := by simp [due, up]; omega
  have hcts : (ct r (i + 1)).length ≤ 2 ^ 20 := by rw [ct_len]; omega
  have hret : ∀ {P0 : Heap → Prop} {R0 : Heap → Prop} {Q0 : Flow → Heap → Prop} {b : Bool} {st : List Stmt}, b = false → b = true → Tr prog w A P0 (execs st (env10 L f cd)) (Nx R0 Q0) := fun h1 h2 => by rw [h1] at h2; cases h2
  -- bisect_right
  refine tr_cons (tr_if (b := !decide ((((List.range ((occ r (i + 1)).length + 1)).map fun (j : Nat) => (0 : Int) + (j : Int)).map fun k => (vk r (i + 1) k.toNat : Int) + 1 - ((i + 1 : Nat) : Int)) = due r (i + 1))) SS.mono (fun h0 S => ?_) (hret (by rw [due_eq hm1]; simp)) (fun _ => tr_nil fun h S => S)) ?_
  · refine it_ne_list (ext_mono h0) hu (Ev.post (fun h v q => q.la) (ev_comp0 (cl := [("size", L + 1 + 1 + 1 + 1), ("counts", L + 1 + 1 + 1 + 1 + 1)]) (cvl := [("counts", .ref ca), ("size", .int ((i + 1 : Nat) : Int))]) S (src_range (n := (occ r (i + 1)).length + 1) hh (b := ((occ r (i + 1)).length : Int) + 1) (by omega) (by split <;> omega)
      (ev_range1 (ext_mono h0) (en_bi S G B.range) (ev_add (ext_mono h0) (ev_item_last (R := VI) (xs := ct r (i + 1)) (ext_mono h0) VI.mono (en_ml S (.head _)) (ev_neg ev_int) (ct_last hm1 hml)) ev_int)))
      (fun k => (vk r (i + 1) k.toNat : Int) + 1 - ((i + 1 : Nat) : Int)) (Cap.mk' ⟨rfl, rfl, trivial⟩ ⟨⟨rfl, rfl, rfl, rfl⟩, ⟨rfl, rfl, rfl, rfl⟩, trivial⟩) (by simp; omega) rfl (fun C' h1 k hk S1 => ?_)))
      (Ev.post (fun h v q => q.la) (en_pl S (.tail _ (.head _))))
    obtain ⟨j, hj, rfl⟩ := List.mem_map.mp hk
    refine ev_sub (ext_mono h1) (ev_add (ext_mono h1) (en_br2 S1 G B F (by omega) (en_ml S1 (.head _)) (en_int S1) ?_ hcts) ev_int) (en_int S1)
    rw [Int.zero_add, Int.toNat_natCast]
    exact ct_br hm1 hml
  -- bisect_left
  refine tr_cons (tr_if (b := !decide ((((List.range ((occ r (i + 1)).length + 1)).map fun (j : Nat) => (0 : Int) + (j : Int)).map fun k => (vk r (i + 1) k.toNat : Int) + 1 - ((i + 1 : Nat) : Int)) = due r (i + 1))) SS.mono (fun h0 S => ?_) (hret (by rw [due_eq hm1]; simp)) (fun _ => tr_nil fun h S => S)) ?_
  · refine it_ne_list (ext_mono h0) hu (Ev.post (fun h v q => q.la) (ev_comp0 (cl := [("size", L + 1 + 1 + 1 + 1), ("counts", L + 1 + 1 + 1 + 1 + 1)]) (cvl := [("counts", .ref ca), ("size", .int ((i + 1 : Nat) : Int))]) S (src_range (n := (occ r (i + 1)).length + 1) hh (b := ((occ r (i + 1)).length : Int) + 1) (by omega) (by split <;> omega)
      (ev_range1 (ext_mono h0) (en_bi S G B.range) (ev_add (ext_mono h0) (ev_item_last (R := VI) (xs := ct r (i + 1)) (ext_mono h0) VI.mono (en_ml S (.head _)) (ev_neg ev_int) (ct_last hm1 hml)) ev_int)))
      (fun k => (vk r (i + 1) k.toNat : Int) + 1 - ((i + 1 : Nat) : Int)) (Cap.mk' ⟨rfl, rfl, trivial⟩ ⟨⟨rfl, rfl, rfl, rfl⟩, ⟨rfl, rfl, rfl, rfl⟩, trivial⟩) (by simp; omega) rfl (fun C' h1 k hk S1 => ?_)))
      (Ev.post (fun h v q => q.la) (en_pl S (.tail _ (.head _))))
    obtain ⟨j, hj, rfl⟩ := List.mem_map.mp hk
    refine ev_sub (ext_mono h1) (ev_add (ext_mono h1) (en_bl2 S1 G B F (by omega) (en_ml S1 (.head _)) (ev_add (ext_mono h1) (en_int S1) ev_int) ?_ hcts) ev_int) (en_int S1)
    rw [Int.zero_add, Int.toNat_natCast]
    exact ct_bl hm1 hml
  -- the covers
  refine tr_cons (tr_if (b := !decide (up (cs r (i + 1)) = up (cs r (i + 1)))) SS.mono (fun h0 S => ?_) (hret (by simp)) (fun _ => tr_nil fun h S => S)) (tr_nil fun h S => ⟨_, rfl, ?_⟩)
  · refine it_ne_list (ext_mono h0) hu (Ev.post (V := VPL (Nw h0) (up (cs r (i + 1)))) (fun h v q => VLP.la q) ?_) (Ev.post (fun h v q => q.la) (ev_item (R := InN [P]) (k := ((i + 1 : Nat) : Int)) (ext_mono h0) (InN.mono _) (Ev.post (fun h v q => q.la) (en_pll S (.tail _ (.tail _ (.tail _ (.tail _ (.head _))))))) (en_int S) (by omega) (by rw [Int.toNat_natCast]; exact css_get (by omega)) (by rw [css_len]; omega)))
    rw [← cov_list hml]
    refine ev_comp1x (cl := [("size", L + 1 + 1 + 1 + 1), ("places", L + 1 + 1 + 1)]) (cvl := [("places", .ref P), ("size", .int ((i + 1 : Nat) : Int))]) S (src_range (n := i + 1) hh (b := ((i + 1 : Nat) : Int) + 1) (by omega) (by split <;> omega) (ev_range2 (ext_mono h0) (en_bi S G B.range) ev_int (ev_add (ext_mono h0) (en_int S) ev_int)))
      _ (Cap.mk' ⟨rfl, rfl, trivial⟩ ⟨⟨rfl, rfl, rfl, rfl⟩, ⟨rfl, rfl, rfl, rfl⟩, trivial⟩) (by simp; omega) rfl (fun C' h1 k hk S1 => ?_)
    obtain ⟨j, hj, hkj⟩ := List.mem_map.mp hk
    have hjl := List.mem_range.mp hj
    have hk2 : k = ((j + 1 : Nat) : Int) := by omega
    clear hkj hk
    subst hk2
    refine it_val (en_call S1 G m9 F9 (evs_cons (ext_mono h1) (VIL.mono (up (occ r (j + 1)))) (Ev.post (fun h v q => q.la) (ev_item (R := InN [P]) (k := ((j + 1 : Nat) : Int) - 1) (ext_mono h1) (InN.mono _) (Ev.post (fun h v q => q.la) (en_pll S1 (.tail _ (.tail _ (.tail _ (.head _)))))) (ev_sub (ext_mono h1) (en_int S1) ev_int) (by omega) (by rw [show (((j + 1 : Nat) : Int) - 1).toNat = j by omega]; exact pls_get (by omega)) (by rw [pls_len]; omega)))
      (evs_cons (ext_mono h1) (VI.mono ((j + 1 : Nat) : Int)) (en_int S1) (evs_cons (ext_mono h1) (VI.mono ((i + 1 : Nat) : Int)) (en_int S1) evs_nil))) (fun s E vs eg e hv => ?_))
    obtain ⟨v, r1, rfl, ⟨a, rfl, hl⟩, v2, r2, rfl, ⟨t2, rfl⟩, v3, r3, rfl, ⟨t3, rfl⟩, rfl⟩ := hv
    exact covers_call F9 G B F hd eg hl sorted_occ (fun p => mem_occ (by omega)) (by have := occ_len (r := r) (c := j + 1); omega) (by omega) hml
  · exact S.recast ⟨rfl, rfl, rfl, rfl, rfl, trivial⟩ ⟨.inl (.tail _ (.tail _ (.head _))), .inl (.tail _ (.tail _ (.tail _ (.head _)))), .inl (.tail _ (.tail _ (.tail _ (.tail _ (.head _))))), .inl (.tail _ (.tail _ (.tail _ (.tail _ (.tail _ (.head _)))))), .inl (.tail _ (.tail _ (.tail _ (.tail _ (.tail _ (.tail _ (.head _))))))), .inl (.tail _ (.tail _ (.tail _ (.tail _ (.tail _ (.tail _ (.tail _ (.head _)))))))), trivial⟩
end
end Mine

namespace Mine

theorem law_start {g h : Heap} {L fa : Addr} {cd : Value} {m : Str → Option Value} {sc : Addr} {ns : List Int} {o5 o4 o3 o2 o1 : Obj} {v5 v4 v3 v2 v1 : Option Value} (hL : g.get? L = none) (F : Fr g L h m) (hm : m "script" = some (.ref sc))
    (N : News g L h [(L + 1 + 1 + 1 + 1 + 1, o5), (L + 1 + 1 + 1 + 1, o4), (L + 1 + 1 + 1, o3), (L + 1 + 1, o2), (L + 1, o1)]) (d5 : o5.data = .cell v5) (d4 : o4.data = .cell v4) (d3 : o3.data = .cell v3) (d2 : o2.data = .cell v2) (d1 : o1.data = .cell v1) (hl : LA VI g sc ns) :
    SS g (env10 L fa cd) [] [("script", .ref sc)] [.il sc ns] h := by
  have cells : ∀ x c, (env10 L fa cd).cells.lookup x = some c → (x, c) ∈ [(("counts" : Str), L + 1 + 1 + 1 + 1 + 1), (("size" : Str), L + 1 + 1 + 1 + 1), (("places" : Str), L + 1 + 1 + 1), (("table" : Str), L + 1 + 1), (("row" : Str), L + 1)] := fun x c q => PySem.mem_of_lookup q
  have ap : ([(("counts" : Str), L + 1 + 1 + 1 + 1 + 1), (("size" : Str), L + 1 + 1 + 1 + 1), (("places" : Str), L + 1 + 1 + 1), (("table" : Str), L + 1 + 1), (("row" : Str), L + 1)] : List (Str × Addr)).Pairwise fun x y => x.2 ≠ y.2 := by
    have n1 : ∀ a b : Nat, a < b → (show Addr from b) ≠ a := fun a b h => Nat.ne_of_gt h
    refine .cons ?_ (.cons ?_ (.cons ?_ (.cons ?_ (.cons ?_ .nil)))) <;> intro p hp <;> simp only [List.mem_cons, List.not_mem_nil, or_false] at hp
    · rcases hp with rfl | rfl | rfl | rfl <;> exact n1 _ _ (by omega)
    · rcases hp with rfl | rfl | rfl <;> exact n1 _ _ (by omega)
    · rcases hp with rfl | rfl <;> exact n1 _ _ (by omega)
    · rcases hp with rfl <;> exact n1 _ _ (by omega)
  have all : ∀ x c, (env10 L fa cd).cells.lookup x = some c → ∃ o v, (c, o) ∈ [(L + 1 + 1 + 1 + 1 + 1, o5), (L + 1 + 1 + 1 + 1, o4), (L + 1 + 1 + 1, o3), (L + 1 + 1, o2), (L + 1, o1)] ∧ o.data = .cell v := fun x c q => by
    have := cells x c q
    simp only [List.mem_cons, List.not_mem_nil, or_false, Prod.mk.injEq] at this
    rcases this with ⟨_, rfl⟩ | ⟨_, rfl⟩ | ⟨_, rfl⟩ | ⟨_, rfl⟩ | ⟨_, rfl⟩
    · exact ⟨o5, v5, .head _, d5⟩
    · exact ⟨o4, v4, .tail _ (.head _), d4⟩
    · exact ⟨o3, v3, .tail _ (.tail _ (.head _)), d3⟩
    · exact ⟨o2, v2, .tail _ (.tail _ (.tail _ (.head _))), d2⟩
    · exact ⟨o1, v1, .tail _ (.tail _ (.tail _ (.tail _ (.head _)))), d1⟩
  refine ⟨⟨F.keep, fun x d z => ?_⟩, ⟨⟨m, F.ns⟩, fun x c q => ?_⟩, ⟨hL, fun x c q => ?_, fun x y c q q' => name_of_addr ap (cells x c q) (cells y c q')⟩, (fun a q => by cases q), AllL.all ⟨⟨hl.ext VI.mono F.keep, fun q => nomatch q⟩, trivial⟩⟩
  · obtain ⟨rfl, rfl⟩ : x = "script" ∧ d = .ref sc := by
      have := lookup_mem z
      simpa using this
    exact ⟨.ref sc, .inl ⟨rfl, m, F.ns, hm⟩, rfl⟩
  · obtain ⟨o, v, hm, hd⟩ := all x c q
    exact ⟨v, o, (N _ hm).1, hd⟩
  · obtain ⟨o, v, hm, hd⟩ := all x c q
    exact ⟨(N _ hm).2.2, (N _ hm).2.1⟩
theorem strKeys_one {e : DictEntry} {n : Str} {t : Tok} (h : e.key = .str n t) : StrKeys #[e] := fun x hx => by
  have : x = e := by simpa using hx
  subst this
  exact ⟨n, t, h⟩
theorem ints_la {g : Heap} {a : Addr} {vs : List Value} {ns : List Int} (hl : g.IsList a vs.toArray) (hi : IntsAre vs ns) : LA VI g a ns := ⟨vs, hl, ints_paired hi⟩
end Mine

set_option maxRecDepth 100000 in
set_option maxHeartbeats 8000000 in
theorem PySem.Challenge.cw_sc0029_01_holds : PySem.Challenge.rw_sc0029_01.Holds := by
  open_k0
  rename Top _ _ _ _ _ _ => T
  rename Frag.In _ _ => KX
  rename Fr _ _ _ _ => F
  rename News _ _ _ _ => N
  rename IntsAre _ _ => hI
  rename Heap.IsList _ _ _ => hL
  rename _ = #[] => hg
  have G : Mine.Gl _ _ _ := ⟨T.g, T.b, T.nolimit⟩
  have B : Mine.Bi _ _ := ⟨⟨mg_none_of KX T.g (by rfl), (T.builtins _ (by decide)).trans (by boot_by_name)⟩, ⟨mg_none_of KX T.g (by rfl), (T.builtins _ (by decide)).trans (by boot_by_name)⟩, ⟨mg_none_of KX T.g (by rfl), (T.builtins _ (by decide)).trans (by boot_by_name)⟩, ⟨mg_none_of KX T.g (by rfl), (T.builtins _ (by decide)).trans (by boot_by_name)⟩, ⟨mg_none_of KX T.g (by rfl), (T.builtins _ (by decide)).trans (by boot_by_name)⟩⟩
  have f1 : Mine.IsFn _ 1 21 .none .none := ⟨_, _, _, _, _, _, KX 21 _ (by rfl), by rfl, codeRec_of KX (by rfl)⟩
  have f3 : Mine.IsFn _ 3 30 (.ref 22) (.ref 23) := ⟨_, _, _, _, _, _, KX 30 _ (by rfl), by rfl, codeRec_of KX (by rfl)⟩
  have f4 : Mine.IsFn _ 4 39 (.ref 31) (.ref 32) := ⟨_, _, _, _, _, _, KX 39 _ (by rfl), by rfl, codeRec_of KX (by rfl)⟩
  have f6 : Mine.IsFn _ 6 46 .none .none := ⟨_, _, _, _, _, _, KX 46 _ (by rfl), by rfl, codeRec_of KX (by rfl)⟩
  have f7 : Mine.IsFn _ 7 51 .none .none := ⟨_, _, _, _, _, _, KX 51 _ (by rfl), by rfl, codeRec_of KX (by rfl)⟩
  have f8 : Mine.IsFn _ 8 58 .none .none := ⟨_, _, _, _, _, _, KX 58 _ (by rfl), by rfl, codeRec_of KX (by rfl)⟩
  have f9 : Mine.IsFn _ 9 65 .none .none := ⟨_, _, _, _, _, _, KX 65 _ (by rfl), by rfl, codeRec_of KX (by rfl)⟩
  have n3 : ∃ m, Heap.Ns _ 23 m ∧ m "key" = some .none := ⟨_, ⟨_, _, _, KX 23 _ (by rfl), by rfl, Mine.strKeys_one rfl, fun _ => rfl⟩, by rfl⟩
  have n4 : ∃ m, Heap.Ns _ 32 m ∧ m "key" = some .none := ⟨_, ⟨_, _, _, KX 32 _ (by rfl), by rfl, Mine.strKeys_one rfl, fun _ => rfl⟩, by rfl⟩
  have b3 : Mine.IsBis _ 3 30 := ⟨22, 23, _, _, _, n3.choose, f3, KX 22 _ (by rfl), by rfl, n3.choose_spec.1, n3.choose_spec.2⟩
  have b4 : Mine.IsBis _ 4 39 := ⟨31, 32, _, _, _, n4.choose, f4, KX 31 _ (by rfl), by rfl, n4.choose_spec.1, n4.choose_spec.2⟩
  have fns : Mine.Fns _ _ := ⟨⟨21, mg_of KX T.g (by rfl), f1⟩, ⟨30, mg_of KX T.g (by rfl), b3⟩, ⟨39, mg_of KX T.g (by rfl), b4⟩, ⟨46, mg_of KX T.g (by rfl), f6⟩, ⟨51, mg_of KX T.g (by rfl), f7⟩, ⟨58, mg_of KX T.g (by rfl), f8⟩, ⟨65, mg_of KX T.g (by rfl), f9⟩⟩
  have S := fun fa cd => Mine.law_start (fa := fa) (cd := cd) (Mine.get_size _) F (by rfl) N (by assumption) (by assumption) (by assumption) (by assumption) (by assumption) (Mine.ints_la hL hI)
  refine wpAny_mono (Mine.law_walk G B fns rfl (Nat.le_of_ble_eq_true rfl) (Nat.le_of_ble_eq_true rfl) (by omega) _ _ (S _ _)) (fun f s' q => ?_) fun _ _ x => x
  obtain ⟨⟨h2, t2, rfl⟩, v, rfl, e, hv⟩ := q
  cases hv
  exact ⟨.inl ⟨.bool true, .bool true, [], rfl, fun cls => rfl, .bool true, postW_of (X := true) rfl ((w_eq_bool (w_res rfl) w_lit).trans rfl) rfl, unshared_nil⟩, e, rfl, hg⟩
