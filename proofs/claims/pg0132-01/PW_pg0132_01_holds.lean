import PyProof.Rows.All
import Wide.All
import OpenK.AllK
import Wide.FinOn
import Lean
import PySem.Challenge.RW_pg0132_01
set_option Elab.async false
-- part P1
section
namespace Mine
/-- bisect_left, bisect_right of a rising row -/
def bl (ns : List Int) (x : Int) : Int := ((ns.filter (fun y => decide (y < x))).length : Nat)
def br (ns : List Int) (x : Int) : Int := ((ns.filter (fun y => decide (y ≤ x))).length : Nat)
/-- strictly rising -/
abbrev Up (ns : List Int) : Prop := ns.Pairwise (· < ·)
theorem getD_lt {ns : List Int} {i : Nat} (h : i < ns.length) : ns.getD i 0 = ns[i] := by simp [List.getD, h]
theorem Up.get {ns : List Int} (h : Up ns) {i j : Nat} (hij : i < j) (hj : j < ns.length) : ns.getD i 0 < ns.getD j 0 := by
  rw [getD_lt hj, getD_lt (Nat.lt_trans hij hj)]
  exact List.pairwise_iff_getElem.mp h i j (Nat.lt_trans hij hj) hj hij
theorem filter_len_split {p : Int → Bool} (ns : List Int) (k : Nat) (hk : k ≤ ns.length) (h1 : ∀ i, i < k → p (ns.getD i 0) = true) (h2 : ∀ i, k ≤ i → i < ns.length → p (ns.getD i 0) = false) :
    (ns.filter p).length = k := by
  have e : ns = ns.take k ++ ns.drop k := (List.take_append_drop k ns).symm
  rw [e, List.filter_append, List.length_append]
  have a1 : (ns.take k).filter p = ns.take k := by
    refine List.filter_eq_self.mpr fun a ha => ?_
    obtain ⟨i, hi, rfl⟩ := List.mem_iff_getElem.mp ha
    rw [List.length_take] at hi
    have := h1 i (by omega)
    rw [getD_lt (by omega)] at this
    rw [List.getElem_take]
    exact this
  have a2 : (ns.drop k).filter p = [] := by
    refine List.filter_eq_nil_iff.mpr fun a ha => ?_
    obtain ⟨i, hi, rfl⟩ := List.mem_iff_getElem.mp ha
    rw [List.length_drop] at hi
    have := h2 (k + i) (by omega) (by omega)
    rw [getD_lt (by omega)] at this
    rw [List.getElem_drop, this]
    exact Bool.false_ne_true
  rw [a1, a2, List.length_take, List.length_nil]
  omega
/-- what holds at the while of bisect_left -/
structure BlInv (ns : List Int) (x lo hi : Int) : Prop where
  lo0 : 0 ≤ lo
  le : lo ≤ hi
  hi1 : hi ≤ ns.length
  below : ∀ i : Nat, (i : Int) < lo → ns.getD i 0 < x
  above : ∀ i : Nat, hi ≤ i → i < ns.length → x ≤ ns.getD i 0
theorem BlInv.start {ns : List Int} {x : Int} : BlInv ns x 0 (ns.length : Nat) := ⟨by omega, by omega, by omega, fun i h => by omega, fun i h h' => by omega⟩
theorem fdiv2 (a : Int) : 2 * Int.fdiv a 2 ≤ a ∧ a < 2 * Int.fdiv a 2 + 2 := by
  rw [Int.fdiv_eq_ediv_of_nonneg a (by omega)]; omega
theorem BlInv.up {ns : List Int} {x lo hi : Int} (h : BlInv ns x lo hi) (u : Up ns) (hlt : lo < hi) (hm : ns.getD (Int.fdiv (lo + hi) 2).toNat 0 < x) : BlInv ns x (Int.fdiv (lo + hi) 2 + 1) hi := by
  have := fdiv2 (lo + hi)
  have l0 := h.lo0
  have l1 := h.hi1
  refine ⟨by omega, by omega, h.hi1, fun i hi' => ?_, h.above⟩
  by_cases e : i = (Int.fdiv (lo + hi) 2).toNat
  · rw [e]; exact hm
  · exact Int.lt_trans (u.get (by omega) (by omega)) hm
theorem BlInv.down {ns : List Int} {x lo hi : Int} (h : BlInv ns x lo hi) (u : Up ns) (hlt : lo < hi) (hm : ¬ ns.getD (Int.fdiv (lo + hi) 2).toNat 0 < x) : BlInv ns x lo (Int.fdiv (lo + hi) 2) := by
  have := fdiv2 (lo + hi)
  have l0 := h.lo0
  have l1 := h.hi1
  refine ⟨by omega, by omega, by omega, h.below, fun i h1 h2 => ?_⟩
  by_cases e : i = (Int.fdiv (lo + hi) 2).toNat
  · rw [e]; omega
  · have := u.get (i := (Int.fdiv (lo + hi) 2).toNat) (j := i) (by omega) h2
    omega
theorem BlInv.done {ns : List Int} {x lo hi : Int} (h : BlInv ns x lo hi) (hge : ¬ lo < hi) : lo = bl ns x := by
  have l0 := h.lo0
  have l1 := h.le
  have l2 := h.hi1
  unfold bl
  rw [filter_len_split ns lo.toNat (by omega) (fun i hi' => by simpa using h.below i (by omega)) (fun i h1 h2 => by have := h.above i (by omega) h2; simpa using this)]
  omega
structure BrInv (ns : List Int) (x lo hi : Int) : Prop where
  lo0 : 0 ≤ lo
  le : lo ≤ hi
  hi1 : hi ≤ ns.length
  below : ∀ i : Nat, (i : Int) < lo → ns.getD i 0 ≤ x
  above : ∀ i : Nat, hi ≤ i → i < ns.length → x < ns.getD i 0
theorem BrInv.start {ns : List Int} {x : Int} : BrInv ns x 0 (ns.length : Nat) := ⟨by omega, by omega, by omega, fun i h => by omega, fun i h h' => by omega⟩
theorem BrInv.down {ns : List Int} {x lo hi : Int} (h : BrInv ns x lo hi) (u : Up ns) (hlt : lo < hi) (hm : x < ns.getD (Int.fdiv (lo + hi) 2).toNat 0) : BrInv ns x lo (Int.fdiv (lo + hi) 2) := by
  have := fdiv2 (lo + hi)
  have l0 := h.lo0
  have l1 := h.hi1
  refine ⟨by omega, by omega, by omega, h.below, fun i h1 h2 => ?_⟩
  by_cases e : i = (Int.fdiv (lo + hi) 2).toNat
  · rw [e]; exact hm
  · have := u.get (i := (Int.fdiv (lo + hi) 2).toNat) (j := i) (by omega) h2
    omega
theorem BrInv.up {ns : List Int} {x lo hi : Int} (h : BrInv ns x lo hi) (u : Up ns) (hlt : lo < hi) (hm : ¬ x < ns.getD (Int.fdiv (lo + hi) 2).toNat 0) : BrInv ns x (Int.fdiv (lo + hi) 2 + 1) hi := by
  have := fdiv2 (lo + hi)
  have l0 := h.lo0
  have l1 := h.hi1
  refine ⟨by omega, by omega, h.hi1, fun i hi' => ?_, h.above⟩
  by_cases e : i = (Int.fdiv (lo + hi) 2).toNat
  · rw [e]; omega
  · have := u.get (i := i) (j := (Int.fdiv (lo + hi) 2).toNat) (by omega) (by omega)
    omega
theorem BrInv.done {ns : List Int} {x lo hi : Int} (h : BrInv ns x lo hi) (hge : ¬ lo < hi) : lo = br ns x := by
  have l0 := h.lo0
  have l1 := h.le
  have l2 := h.hi1
  unfold br
  rw [filter_len_split ns lo.toNat (by omega) (fun i hi' => by simpa using h.below i (by omega)) (fun i h1 h2 => by have := h.above i (by omega) h2; simpa using this)]
  omega
/-- a place put in, taken out -/
def insL (ns : List Int) (k : Nat) (x : Int) : List Int := ns.take k ++ x :: ns.drop k
def turnL (ns : List Int) (x : Int) : List Int := if bl ns x < br ns x then ns.take (bl ns x).toNat ++ ns.drop ((bl ns x).toNat + 1) else insL ns (br ns x).toNat x
theorem bl_cons (a : Int) (r : List Int) (x : Int) : bl (a :: r) x = (if a < x then 1 else 0) + bl r x := by
  unfold bl; rw [List.filter_cons]; split
  · rename_i h; have h' : a < x := by simpa using h
    rw [if_pos h', List.length_cons]; omega
  · rename_i h; have h' : ¬ a < x := by simpa using h
    rw [if_neg h']; omega
theorem br_cons (a : Int) (r : List Int) (x : Int) : br (a :: r) x = (if a ≤ x then 1 else 0) + br r x := by
  unfold br; rw [List.filter_cons]; split
  · rename_i h; have h' : a ≤ x := by simpa using h
    rw [if_pos h', List.length_cons]; omega
  · rename_i h; have h' : ¬ a ≤ x := by simpa using h
    rw [if_neg h']; omega
theorem bl_nonneg (ns : List Int) (x : Int) : 0 ≤ bl ns x := by unfold bl; omega
theorem br_nonneg (ns : List Int) (x : Int) : 0 ≤ br ns x := by unfold br; omega
theorem bl_le (ns : List Int) (x : Int) : bl ns x ≤ ns.length := by unfold bl; have := List.length_filter_le (fun y => decide (y < x)) ns; omega
theorem br_le (ns : List Int) (x : Int) : br ns x ≤ ns.length := by unfold br; have := List.length_filter_le (fun y => decide (y ≤ x)) ns; omega
theorem bl_zero {ns : List Int} {x : Int} (h : ∀ z ∈ ns, x ≤ z) : bl ns x = 0 := by
  unfold bl
  rw [List.filter_eq_nil_iff.mpr (fun a ha => by have := h a ha; simpa using this)]; rfl
theorem br_zero {ns : List Int} {x : Int} (h : ∀ z ∈ ns, x < z) : br ns x = 0 := by
  unfold br
  rw [List.filter_eq_nil_iff.mpr (fun a ha => by have := h a ha; simpa using this)]; rfl
/-- bisect_right is bisect_left, or one more where the place is in the row -/
theorem br_eq {ns : List Int} (u : Up ns) (x : Int) : br ns x = bl ns x + (if x ∈ ns then 1 else 0) := by
  induction ns with
  | nil => simp [br, bl]
  | cons a r ih =>
    have ha := (List.pairwise_cons.mp u).1
    have ih := ih (List.pairwise_cons.mp u).2
    rw [bl_cons, br_cons, ih]
    have hc : (x ∈ a :: r) ↔ (x = a ∨ x ∈ r) := List.mem_cons
    by_cases h1 : x = a
    · have hn : x ∉ r := fun hx => absurd (ha x hx) (by omega)
      have k1 : a ≤ x := by omega
      have k2 : ¬ a < x := by omega
      have k3 : x ∈ a :: r := hc.mpr (.inl h1)
      rw [if_pos k1, if_neg hn, if_neg k2, if_pos k3]; omega
    · by_cases h2 : x ∈ r
      · have := ha x h2
        have k1 : a ≤ x := by omega
        have k2 : a < x := by omega
        simp only [hc, h1, h2, k1, k2, or_true, if_true]; omega
      · simp only [hc, h1, h2, or_self, if_false]
        by_cases h3 : a < x
        · have k1 : a ≤ x := by omega
          simp only [h3, k1, if_true]; omega
        · have k1 : ¬ a ≤ x := by omega
          simp only [h3, k1, if_false]; omega
theorem has_iff {ns : List Int} (u : Up ns) (x : Int) : bl ns x < br ns x ↔ x ∈ ns := by
  rw [br_eq u]; by_cases h : x ∈ ns <;> simp [h] <;> omega
theorem take_bl {ns : List Int} (u : Up ns) (x : Int) : ns.take (bl ns x).toNat = ns.filter (fun y => decide (y < x)) := by
  induction ns with
  | nil => simp
  | cons a r ih =>
    have ha := (List.pairwise_cons.mp u).1
    have ih := ih (List.pairwise_cons.mp u).2
    rw [bl_cons]
    by_cases h : a < x
    · have b0 := bl_nonneg r x
      rw [if_pos h, List.filter_cons_of_pos (by simpa using h), show ((1 : Int) + bl r x).toNat = (bl r x).toNat + 1 by omega, List.take_succ_cons, ih]
    · rw [if_neg h, List.filter_cons_of_neg (by simpa using h), bl_zero (fun z hz => by have := ha z hz; omega)]
      rw [List.filter_eq_nil_iff.mpr (fun z hz => by have := ha z hz; simp; omega)]
      rfl
theorem drop_bl {ns : List Int} (u : Up ns) (x : Int) : ns.drop (bl ns x).toNat = ns.filter (fun y => decide (x ≤ y)) := by
  induction ns with
  | nil => simp
  | cons a r ih =>
    have ha := (List.pairwise_cons.mp u).1
    have ih := ih (List.pairwise_cons.mp u).2
    rw [bl_cons]
    by_cases h : a < x
    · have b0 := bl_nonneg r x
      rw [if_pos h, List.filter_cons_of_neg (by simpa using h), show ((1 : Int) + bl r x).toNat = (bl r x).toNat + 1 by omega, List.drop_succ_cons, ih]
    · rw [if_neg h, List.filter_cons_of_pos (by simp; omega), bl_zero (fun z hz => by have := ha z hz; omega)]
      rw [List.filter_eq_self.mpr (fun z hz => by have := ha z hz; simp; omega)]
      rfl
theorem drop_br {ns : List Int} (u : Up ns) (x : Int) : ns.drop (br ns x).toNat = ns.filter (fun y => decide (x < y)) := by
  induction ns with
  | nil => simp
  | cons a r ih =>
    have ha := (List.pairwise_cons.mp u).1
    have ih := ih (List.pairwise_cons.mp u).2
    rw [br_cons]
    by_cases h : a ≤ x
    · have b0 := br_nonneg r x
      rw [if_pos h, List.filter_cons_of_neg (by simp; omega), show ((1 : Int) + br r x).toNat = (br r x).toNat + 1 by omega, List.drop_succ_cons, ih]
    · rw [if_neg h, List.filter_cons_of_pos (by simp; omega), br_zero (fun z hz => by have := ha z hz; omega)]
      rw [List.filter_eq_self.mpr (fun z hz => by have := ha z hz; simp; omega)]
      rfl
theorem turnL_eq {ns : List Int} (u : Up ns) (x : Int) : turnL ns x = ns.filter (fun y => decide (y < x)) ++ (if x ∈ ns then [] else [x]) ++ ns.filter (fun y => decide (x < y)) := by
  unfold turnL
  have b0 := bl_nonneg ns x
  have e := br_eq u x
  by_cases h : x ∈ ns
  · rw [if_pos ((has_iff u x).mpr h), if_pos h, take_bl u, List.append_nil, ← drop_br u, e, if_pos h, show (bl ns x + 1).toNat = (bl ns x).toNat + 1 by omega]
  · rw [if_neg (fun q => h ((has_iff u x).mp q)), if_neg h]
    rw [if_neg h] at e
    unfold insL
    rw [drop_br u, show br ns x = bl ns x by omega, take_bl u, List.append_assoc]
    rfl
theorem turnL_up {ns : List Int} (u : Up ns) (x : Int) : Up (turnL ns x) := by
  rw [turnL_eq u, List.append_assoc]
  refine List.pairwise_append.mpr ⟨List.Pairwise.filter _ u, List.pairwise_append.mpr ⟨?_, List.Pairwise.filter _ u, ?_⟩, ?_⟩
  · split <;> simp
  · intro a ha b hb
    simp only [List.mem_filter, decide_eq_true_eq] at hb
    split at ha
    · cases ha
    · rw [List.mem_singleton.mp ha]; exact hb.2
  · intro a ha b hb
    simp only [List.mem_filter, decide_eq_true_eq] at ha
    rcases List.mem_append.mp hb with hb | hb
    · split at hb
      · cases hb
      · rw [List.mem_singleton.mp hb]; exact ha.2
    · simp only [List.mem_filter, decide_eq_true_eq] at hb
      exact Int.lt_trans ha.2 hb.2
theorem mem_turnL {ns : List Int} (u : Up ns) (x z : Int) : z ∈ turnL ns x ↔ (if z = x then x ∉ ns else z ∈ ns) := by
  rw [turnL_eq u]
  simp only [List.mem_append, List.mem_filter, decide_eq_true_eq]
  by_cases e : z = x
  · subst e
    rw [if_pos rfl]
    by_cases h : z ∈ ns <;> simp [h] <;> omega
  · rw [if_neg e]
    have : z < x ∨ x < z := by omega
    by_cases h : x ∈ ns
    · simp only [h, if_true]
      constructor
      · rintro ((⟨a, _⟩ | hf) | ⟨a, _⟩)
        · exact a
        · cases hf
        · exact a
      · intro a; rcases this with q | q
        · exact .inl (.inl ⟨a, q⟩)
        · exact .inr ⟨a, q⟩
    · simp only [h, if_false]
      constructor
      · rintro ((⟨a, _⟩ | hf) | ⟨a, _⟩)
        · exact a
        · exact absurd (List.mem_singleton.mp hf) e
        · exact a
      · intro a; rcases this with q | q
        · exact .inl (.inl ⟨a, q⟩)
        · exact .inr ⟨a, q⟩
/-- two rising rows with the same places are one -/
theorem up_ext : ∀ {a b : List Int}, Up a → Up b → (∀ z, z ∈ a ↔ z ∈ b) → a = b
  | [], [], _, _, _ => rfl
  | [], y :: r, _, _, h => absurd ((h y).mpr (.head _)) (by simp)
  | x :: r, [], _, _, h => absurd ((h x).mp (.head _)) (by simp)
  | x :: r, y :: q, u, v, h => by
    have hx := (List.pairwise_cons.mp u).1
    have hy := (List.pairwise_cons.mp v).1
    have e : x = y := by
      rcases List.mem_cons.mp ((h x).mp (.head _)) with e | m1
      · exact e
      · rcases List.mem_cons.mp ((h y).mpr (.head _)) with e | m2
        · exact e.symm
        · have := hx y m2; have := hy x m1; omega
    subst e
    congr 1
    refine up_ext (List.pairwise_cons.mp u).2 (List.pairwise_cons.mp v).2 fun z => ⟨fun hz => ?_, fun hz => ?_⟩
    · rcases List.mem_cons.mp ((h z).mp (.tail _ hz)) with e | m
      · subst e; exact absurd (hx z hz) (by omega)
      · exact m
    · rcases List.mem_cons.mp ((h z).mpr (.tail _ hz)) with e | m
      · subst e; exact absurd (hy z hz) (by omega)
      · exact m
theorem up_len : ∀ (n : Nat) {a : List Int} {c : Int}, Up a → (∀ z ∈ a, c ≤ z ∧ z < c + n) → a.length ≤ n
  | 0, [], _, _, _ => Nat.le_refl _
  | 0, x :: _, c, _, h => by have := h x (.head _); omega
  | n + 1, [], _, _, _ => Nat.zero_le _
  | n + 1, x :: r, c, u, h => by
    have hx := (List.pairwise_cons.mp u).1
    have h0 := h x (.head _)
    have := up_len n (a := r) (c := c + 1) (List.pairwise_cons.mp u).2 fun z hz => by
      have h1 := hx z hz; have h2 := h z (.tail _ hz); omega
    rw [List.length_cons]; omega
end Mine
end
-- part P2
section
namespace Mine
/-- a row of places of a text of eight signs -/
structure Row8 (ns : List Int) : Prop where
  up : Up ns
  at8 : ∀ z ∈ ns, 0 ≤ z ∧ z < 8
theorem Row8.len {ns : List Int} (h : Row8 ns) : ns.length ≤ 8 := up_len 8 (c := 0) h.up fun z hz => by have := h.at8 z hz; omega
theorem Row8.turn {ns : List Int} (h : Row8 ns) {x : Int} (h0 : 0 ≤ x) (h1 : x < 8) : Row8 (turnL ns x) :=
  ⟨turnL_up h.up x, fun z hz => by
    have := (mem_turnL h.up x z).mp hz
    split at this
    · omega
    · exact h.at8 z this⟩
/-- the run of backslashes from a on, turned in the row -/
def runB (t : Nat → Nat) : Nat → Nat → List Int → List Int × Nat
  | 0, a, B => (B, a)
  | n + 1, a, B => if t a = 92 then runB t n (a + 1) (turnL B a) else (B, a)
theorem runB_stop {t : Nat → Nat} {n a : Nat} {B : List Int} (h : t a ≠ 92) : runB t n a B = (B, a) := by
  cases n with
  | zero => rfl
  | succ n => unfold runB; rw [if_neg h]
theorem runB_go {t : Nat → Nat} {n a : Nat} {B : List Int} (h : t a = 92) : runB t (n + 1) a B = runB t n (a + 1) (turnL B a) := by
  rw [runB, if_pos h]
/-- the four rows: quotes, closers, commas, bars -/
structure R4 where
  q : List Int
  c : List Int
  m : List Int
  b : List Int
structure R4.Ok (r : R4) : Prop where
  q : Row8 r.q
  c : Row8 r.c
  m : Row8 r.m
  b : Row8 r.b
/-- what the helper for one sign makes of the rows -/
def signR (t : Nat → Nat) (place k : Nat) (r : R4) : R4 :=
  if k = 44 then { r with m := turnL r.m place }
  else if k = 34 then { r with q := turnL r.q place, c := if ((place : Int) - 1) ∈ r.b then r.c else turnL r.c place }
  else if k = 92 ∧ ((place : Int) - 1) ∉ r.b then
    let e := runB t (7 - place) (place + 1) (turnL r.b place)
    { r with b := e.1, c := if t e.2 = 34 then turnL r.c e.2 else r.c }
  else r
end Mine
end
-- part P3
section
namespace Mine
/-- parse_http_list, sign by sign -/
structure PS where
  res : List (List Nat)
  part : List Nat
  esc : Bool
  quo : Bool
def pstep (p : PS) (c : Nat) : PS :=
  if p.esc = true then { p with part := p.part ++ [c], esc := false }
  else if p.quo = true then
    if c = 92 then { p with esc := true } else { p with part := p.part ++ [c], quo := if c = 34 then false else p.quo }
  else if c = 44 then { p with res := p.res ++ [p.part], part := [] }
  else { p with part := p.part ++ [c], quo := if c = 34 then true else p.quo }
def pinit : PS := ⟨[], [], false, false⟩
def pfin (p : PS) : List (List Nat) := if p.part = [] then p.res else p.res ++ [p.part]
def parseL (l : List Nat) : List (List Nat) := pfin (l.foldl pstep pinit)
/-- sizes -/
structure PS.Le (p : PS) (n : Nat) : Prop where
  part : p.part.length ≤ n
  res : p.res.length ≤ n
  each : ∀ l ∈ p.res, l.length ≤ n
theorem PS.Le.step {p : PS} {n : Nat} (h : p.Le n) (c : Nat) : (pstep p c).Le (n + 1) := by
  have h1 := h.part
  have h2 := h.res
  have h3 : ∀ l ∈ p.res, l.length ≤ n + 1 := fun l hl => Nat.le_succ_of_le (h.each l hl)
  unfold pstep
  split
  · exact ⟨by simp; omega, by simpa using by omega, h3⟩
  split
  · split
    · exact ⟨by simpa using by omega, by simpa using by omega, h3⟩
    · exact ⟨by simp; omega, by simpa using by omega, h3⟩
  split
  · refine ⟨by simp, by simp; omega, fun l hl => ?_⟩
    rcases List.mem_append.mp hl with q | q
    · exact h3 l q
    · rw [List.mem_singleton.mp q]; omega
  · exact ⟨by simp; omega, by simpa using by omega, h3⟩
end Mine
end
-- part P4
section
namespace Mine
/-- the first place of what is left of a row, or high -/
def nextOr (l : List Int) (high : Int) : Int := match l with
  | [] => high
  | a :: _ => min a high
def opn (r : R4) (spot high : Int) : Int := nextOr (r.q.drop (bl r.q spot).toNat) high
def cls (r : R4) (op high : Int) : Int := nextOr (r.c.drop (br r.c op).toNat) high
def between (l : List Int) (a b : Int) : List Int := (l.take (bl l b).toNat).drop (bl l a).toNat
/-- the greater of two, as max reckons it -/
def mx (a b : Int) : Int := if b > a then b else a
theorem mx_spec (a b : Int) : a ≤ mx a b ∧ b ≤ mx a b ∧ (mx a b = a ∨ mx a b = b) := by unfold mx; split <;> omega
/-- the states that the while of the told list reaches -/
inductive TR (r : R4) (low high : Int) : Int → List Int → List Int → Prop where
  | start : TR r low high low [] []
  | step {spot : Int} {c g : List Int} : TR r low high spot c g → spot < high →
      TR r low high (mx spot (cls r (opn r spot high) high) + 1) (c ++ between r.m spot (opn r spot high)) (g ++ between r.b (opn r spot high) (cls r (opn r spot high) high))
theorem nextOr_le (l : List Int) (high : Int) : nextOr l high ≤ high := by
  unfold nextOr; split <;> omega
theorem between_len (l : List Int) (a b : Int) : (between l a b).length ≤ l.length := by
  unfold between; rw [List.length_drop, List.length_take]; omega
theorem between_mem {l : List Int} {a b z : Int} (h : z ∈ between l a b) : z ∈ l := List.mem_of_mem_take (List.mem_of_mem_drop h)
structure TR.Ok (r : R4) (low high spot : Int) (c g : List Int) : Prop where
  lo : low ≤ spot
  hi : spot ≤ high + 1
  cl : (c.length : Int) ≤ 8 * (spot - low)
  gl : (g.length : Int) ≤ 8 * (spot - low)
  cm : ∀ z ∈ c, z ∈ r.m
  gm : ∀ z ∈ g, z ∈ r.b
theorem TR.ok {r : R4} {low high spot : Int} {c g : List Int} (ok : r.Ok) (hlh : low ≤ high) (h : TR r low high spot c g) : TR.Ok r low high spot c g := by
  induction h with
  | start => exact ⟨by omega, by omega, by simp, by simp, by simp, by simp⟩
  | step h hlt ih =>
    rename_i spot c g
    have h1 := nextOr_le (r.c.drop (br r.c (opn r spot high)).toNat) high
    have h2 := between_len r.m spot (opn r spot high)
    have h3 := between_len r.b (opn r spot high) (cls r (opn r spot high) high)
    have h4 := ok.m.len
    have h5 := ok.b.len
    have i1 := ih.lo
    have i2 := ih.hi
    have i3 := ih.cl
    have i4 := ih.gl
    have e : cls r (opn r spot high) high ≤ high := h1
    have e2 := mx_spec spot (cls r (opn r spot high) high)
    refine ⟨by omega, by omega, ?_, ?_, ?_, ?_⟩
    · rw [List.length_append]; omega
    · rw [List.length_append]; omega
    · intro z hz
      rcases List.mem_append.mp hz with q | q
      · exact ih.cm z q
      · exact between_mem q
    · intro z hz
      rcases List.mem_append.mp hz with q | q
      · exact ih.gm z q
      · exact between_mem q
theorem nextOr_eq {l : List Int} {high M : Int} (h1 : M ∈ l.take 1 ++ [high]) (h2 : ∀ a, a ∈ l.take 1 ++ [high] → M ≤ a) : M = nextOr l high := by
  unfold nextOr
  cases l with
  | nil =>
    have : M = high := by simpa using h1
    exact this
  | cons a r =>
    have e : (a :: r).take 1 ++ [high] = [a, high] := by simp
    rw [e] at h1 h2
    have q1 := h2 a (by simp)
    have q2 := h2 high (by simp)
    simp only [List.mem_cons, List.not_mem_nil, or_false] at h1
    show M = min a high
    rcases h1 with h | h <;> omega
theorem between_eq {l : List Int} (a b : Int) : (l.drop (bl l a).toNat).take (min (bl l b).toNat l.length - (bl l a).toNat) = between l a b := by
  unfold between
  have := bl_le l b
  rw [List.drop_take, show min (bl l b).toNat l.length = (bl l b).toNat by omega]
/-- a part: the signs from b to e that are not gone -/
def pick (t : Nat → Nat) (g : List Int) (b e : Int) : List Nat := ((List.range (e - b).toNat).filter (fun (i : Nat) => !g.any fun z => z == b + (i : Int))).map (fun (i : Nat) => t (b + (i : Int)).toNat)
def partsP (t : Nat → Nat) (low high : Int) (c g : List Int) : List (List Nat) := ((low :: c.map (· + 1)).zip (c ++ [high])).map fun p => pick t g p.1 p.2
def dropE (l : List (List Nat)) : List (List Nat) := if l.getLastD [] = [] then l.dropLast else l
end Mine
end
-- part P5
section
namespace Mine
/-- an even count of backslashes right ahead -/
def ev (t : Nat → Nat) : Nat → Bool
  | 0 => true
  | k + 1 => if t k = 92 then !ev t k else true
theorem ev_congr {a b : Nat → Nat} : ∀ {n : Nat}, (∀ j, j < n → (a j = 92 ↔ b j = 92)) → ev a n = ev b n
  | 0, _ => rfl
  | n + 1, h => by
    have ih := ev_congr (n := n) fun j hj => h j (Nat.lt_succ_of_lt hj)
    have hn := h n (Nat.lt_succ_self _)
    unfold ev
    by_cases q : a n = 92
    · rw [if_pos q, if_pos (hn.mp q), ih]
    · rw [if_neg q, if_neg (fun w => q (hn.mpr w))]
/-- from a place on where both are alike -/
theorem ev_from {a b : Nat → Nat} {e : Nat} (h0 : ev a e = ev b e) : ∀ {n : Nat}, (∀ j, e ≤ j → j < e + n → (a j = 92 ↔ b j = 92)) → ev a (e + n) = ev b (e + n)
  | 0, _ => h0
  | n + 1, h => by
    have ih := ev_from h0 (n := n) fun j h1 h2 => h j h1 (by omega)
    have hn := h (e + n) (by omega) (by omega)
    show ev a (e + n + 1) = ev b (e + n + 1)
    unfold ev
    by_cases q : a (e + n) = 92
    · rw [if_pos q, if_pos (hn.mp q), ih]
    · rw [if_neg q, if_neg (fun w => q (hn.mpr w))]
/-- along a run of backslashes two that part go on parting -/
theorem ev_part {a b : Nat → Nat} {e : Nat} (h0 : ev a e = !ev b e) : ∀ {n : Nat}, (∀ j, e ≤ j → j < e + n → a j = 92 ∧ b j = 92) → ev a (e + n) = !ev b (e + n)
  | 0, _ => h0
  | n + 1, h => by
    have ih := ev_part h0 (n := n) fun j h1 h2 => h j h1 (by omega)
    have hn := h (e + n) (by omega) (by omega)
    show ev a (e + n + 1) = !ev b (e + n + 1)
    unfold ev
    rw [if_pos hn.1, if_pos hn.2, ih]
/-- the rows of a text -/
structure IsRows (t : Nat → Nat) (r : R4) : Prop where
  ok : r.Ok
  q : ∀ k : Nat, k < 8 → ((k : Int) ∈ r.q ↔ t k = 34)
  c : ∀ k : Nat, k < 8 → ((k : Int) ∈ r.c ↔ t k = 34 ∧ ev t k = true)
  m : ∀ k : Nat, k < 8 → ((k : Int) ∈ r.m ↔ t k = 44)
  b : ∀ k : Nat, k < 8 → ((k : Int) ∈ r.b ↔ t k = 92 ∧ ev t k = true)
theorem Row8.nat {ns : List Int} (h : Row8 ns) {z : Int} (hz : z ∈ ns) : ∃ k : Nat, k < 8 ∧ z = (k : Int) := by
  have := h.at8 z hz
  exact ⟨z.toNat, by omega, by omega⟩
theorem IsRows.even {t : Nat → Nat} {r : R4} (h : IsRows t r) {p : Nat} (hp : p < 8) : ((p : Int) - 1) ∈ r.b ↔ ev t p = false := by
  cases p with
  | zero =>
    constructor
    · intro q; have := h.ok.b.at8 _ q; omega
    · intro q; cases q
  | succ p =>
    have := h.b p (by omega)
    rw [show ((p + 1 : Nat) : Int) - 1 = (p : Int) by omega, this]
    show _ ↔ (if t p = 92 then !ev t p else true) = false
    by_cases q : t p = 92
    · rw [if_pos q]; cases ev t p <;> simp [q]
    · rw [if_neg q]; simp [q]
theorem turn_at {ns : List Int} (h : Row8 ns) (p k : Nat) : (k : Int) ∈ turnL ns (p : Int) ↔ (if k = p then (k : Int) ∉ ns else (k : Int) ∈ ns) := by
  rw [mem_turnL h.up]
  by_cases e : k = p
  · subst e; simp
  · rw [if_neg e, if_neg (by omega)]
/-- the run -/
structure RunB (t : Nat → Nat) (a : Nat) (B B' : List Int) (e : Nat) : Prop where
  le : a ≤ e
  le8 : e ≤ 8
  row : Row8 B'
  run : ∀ j, a ≤ j → j < e → t j = 92
  stop : t e ≠ 92
  mem : ∀ k : Nat, (k : Int) ∈ B' ↔ (if a ≤ k ∧ k < e then (k : Int) ∉ B else (k : Int) ∈ B)
theorem runB_spec {t : Nat → Nat} (h8 : t 8 ≠ 92) : ∀ (n a : Nat) (B : List Int), a + n = 8 → Row8 B → RunB t a B (runB t n a B).1 (runB t n a B).2
  | 0, a, B, h, hB => by
    have : a = 8 := by omega
    subst this
    exact ⟨by simp [runB], by simp [runB], hB, fun j h1 h2 => absurd h2 (by simp [runB]; omega), h8, fun k => by show _ ∈ B ↔ (if 8 ≤ k ∧ k < 8 then _ else _); rw [if_neg (by omega)]⟩
  | n + 1, a, B, h, hB => by
    unfold runB
    by_cases q : t a = 92
    · rw [if_pos q]
      have ih := runB_spec h8 n (a + 1) (turnL B a) (by omega) (hB.turn (by omega) (by omega))
      generalize runB t n (a + 1) (turnL B a) = w at *
      have h1 := ih.le
      refine ⟨by omega, ih.le8, ih.row, fun j j1 j2 => ?_, ih.stop, fun k => ?_⟩
      · by_cases e : j = a
        · rw [e]; exact q
        · exact ih.run j (by omega) j2
      · rw [ih.mem k, turn_at hB]
        by_cases e : k = a
        · subst e
          rw [if_neg (by omega), if_pos rfl, if_pos (by omega)]
        · rw [if_neg e]
          by_cases e2 : a ≤ k ∧ k < w.2
          · rw [if_pos e2, if_pos (by omega)]
          · rw [if_neg e2, if_neg (by omega)]
    · rw [if_neg q]
      refine ⟨Nat.le_refl _, by omega, hB, fun j h1 h2 => ?_, q, fun k => ?_⟩
      · exact absurd h2 (by show ¬ j < a; omega)
      · rw [if_neg (by omega)]
/-- a sign that stands in no row -/
def Neu (k : Nat) : Prop := k ≠ 34 ∧ k ≠ 44 ∧ k ≠ 92
theorem sign_rows {t a b : Nat → Nat} {p k : Nat} {r : R4} (hp : p < 8) (h8 : t 8 = 0) (hab : ∀ i, i ≠ p → a i = b i) (ht : ∀ i, p < i → t i = a i)
    (hk : (Neu (a p) ∧ b p = k) ∨ (a p = k ∧ Neu (b p))) (h : IsRows a r) : IsRows b (signR t p k r) := by
  have hev := h.even hp
  have ok := h.ok
  have p0 : (0 : Int) ≤ (p : Int) := by omega
  have p8 : (p : Int) < 8 := by omega
  have evp : ev a p = ev b p := ev_congr fun j hj => by rw [hab j (by omega)]
  unfold signR
  by_cases k44 : k = 44
  · subst k44
    rw [if_pos rfl]
    have np : (a p ≠ 92 ∧ b p ≠ 92) ∧ a p ≠ 34 ∧ b p ≠ 34 := by unfold Neu at hk; omega
    have hx : (a p ≠ 44 ↔ b p = 44) := by unfold Neu at hk; omega
    have hev2 : ∀ n, ev a n = ev b n := fun n => ev_congr fun j _ => by
      by_cases e : j = p
      · subst e; simp [np.1.1, np.1.2]
      · rw [hab j e]
    have hq2 : ∀ j, a j = 34 ↔ b j = 34 := fun j => by
      by_cases e : j = p
      · subst e; simp [np.2.1, np.2.2]
      · rw [hab j e]
    have hb2 : ∀ j, a j = 92 ↔ b j = 92 := fun j => by
      by_cases e : j = p
      · subst e; simp [np.1.1, np.1.2]
      · rw [hab j e]
    refine ⟨⟨ok.q, ok.c, ok.m.turn p0 p8, ok.b⟩, fun j hj => ?_, fun j hj => ?_, fun j hj => ?_, fun j hj => ?_⟩
    · show _ ∈ r.q ↔ _; rw [h.q j hj, hq2]
    · show _ ∈ r.c ↔ _; rw [h.c j hj, hq2, hev2]
    · show _ ∈ turnL r.m (p : Int) ↔ _
      rw [turn_at ok.m]
      by_cases e : j = p
      · subst e; rw [if_pos rfl, h.m j hj]; exact hx
      · rw [if_neg e, h.m j hj, hab j e]
    · show _ ∈ r.b ↔ _; rw [h.b j hj, hb2, hev2]
  rw [if_neg k44]
  by_cases k34 : k = 34
  · subst k34
    rw [if_pos rfl]
    have np : (a p ≠ 92 ∧ b p ≠ 92) ∧ a p ≠ 44 ∧ b p ≠ 44 := by unfold Neu at hk; omega
    have hx : (a p ≠ 34 ↔ b p = 34) := by unfold Neu at hk; omega
    have hev2 : ∀ n, ev a n = ev b n := fun n => ev_congr fun j _ => by
      by_cases e : j = p
      · subst e; simp [np.1.1, np.1.2]
      · rw [hab j e]
    have hm2 : ∀ j, a j = 44 ↔ b j = 44 := fun j => by
      by_cases e : j = p
      · subst e; simp [np.2.1, np.2.2]
      · rw [hab j e]
    have hb2 : ∀ j, a j = 92 ↔ b j = 92 := fun j => by
      by_cases e : j = p
      · subst e; simp [np.1.1, np.1.2]
      · rw [hab j e]
    refine ⟨⟨ok.q.turn p0 p8, ?_, ok.m, ok.b⟩, fun j hj => ?_, fun j hj => ?_, fun j hj => ?_, fun j hj => ?_⟩
    · show Row8 (if _ then _ else _)
      split
      · exact ok.c
      · exact ok.c.turn p0 p8
    · show _ ∈ turnL r.q (p : Int) ↔ _
      rw [turn_at ok.q]
      by_cases e : j = p
      · subst e; rw [if_pos rfl, h.q j hj]; exact hx
      · rw [if_neg e, h.q j hj, hab j e]
    · show _ ∈ (if _ then _ else _) ↔ _
      by_cases hv : ((p : Int) - 1) ∈ r.b
      · rw [if_pos hv, h.c j hj, hev2]
        have e0 := hev.mp hv
        by_cases e : j = p
        · subst e; rw [← hev2, e0]; simp
        · rw [hab j e]
      · rw [if_neg hv, turn_at ok.c]
        have e0 : ev a p = true := by
          cases q : ev a p with
          | true => rfl
          | false => exact absurd (hev.mpr q) hv
        by_cases e : j = p
        · subst e; rw [if_pos rfl, h.c j hj, ← hev2, e0]; simpa using hx
        · rw [if_neg e, h.c j hj, hev2, hab j e]
    · show _ ∈ r.m ↔ _; rw [h.m j hj, hm2]
    · show _ ∈ r.b ↔ _; rw [h.b j hj, hb2, hev2]
  rw [if_neg k34]
  by_cases k92 : k = 92
  · subst k92
    have np : (a p ≠ 44 ∧ b p ≠ 44) ∧ a p ≠ 34 ∧ b p ≠ 34 := by unfold Neu at hk; omega
    have hx : (a p ≠ 92 ↔ b p = 92) := by unfold Neu at hk; omega
    have hq2 : ∀ j, a j = 34 ↔ b j = 34 := fun j => by
      by_cases e : j = p
      · subst e; simp [np.2.1, np.2.2]
      · rw [hab j e]
    have hm2 : ∀ j, a j = 44 ↔ b j = 44 := fun j => by
      by_cases e : j = p
      · subst e; simp [np.1.1, np.1.2]
      · rw [hab j e]
    by_cases hv : ((p : Int) - 1) ∈ r.b
    · rw [if_neg (fun w => w.2 hv)]
      have e0 := hev.mp hv
      have e1 : ev a (p + 1) = true ∧ ev b (p + 1) = true := by
        unfold ev; rw [← evp, e0]; constructor <;> split <;> rfl
      have hev2 : ∀ n, ev a n = ev b n := fun n => by
        by_cases hn : n ≤ p
        · exact ev_congr fun j hj => by rw [hab j (by omega)]
        · have e : n = p + 1 + (n - (p + 1)) := by omega
          rw [e]
          exact ev_from (by rw [e1.1, e1.2]) fun j h1 _ => by rw [hab j (by omega)]
      refine ⟨ok, fun j hj => ?_, fun j hj => ?_, fun j hj => ?_, fun j hj => ?_⟩
      · rw [h.q j hj, hq2]
      · rw [h.c j hj, hq2, hev2]
      · rw [h.m j hj, hm2]
      · rw [h.b j hj, hev2]
        by_cases e : j = p
        · subst e; rw [← hev2, e0]; simp
        · rw [hab j e]
    · rw [if_pos ⟨rfl, hv⟩]
      have e0 : ev a p = true := by
        cases q : ev a p with
        | true => rfl
        | false => exact absurd (hev.mpr q) hv
      have R := runB_spec (t := t) (by rw [h8]; decide) (7 - p) (p + 1) (turnL r.b p) (by omega) (ok.b.turn p0 p8)
      generalize hw : runB t (7 - p) (p + 1) (turnL r.b p) = w at *
      have l1 := R.le
      have l2 := R.le8
      have e1 : ev a (p + 1) = !ev b (p + 1) := by
        unfold ev; rw [← evp, e0]
        by_cases q : a p = 92
        · rw [if_pos q, if_neg (fun q2 => (hx.mpr q2) q), Bool.not_true]
        · rw [if_neg q, if_pos (hx.mp q), Bool.not_true, Bool.not_false]
      have bel : ∀ n, n ≤ p → ev a n = ev b n := fun n hn => ev_congr fun j hj => by rw [hab j (by omega)]
      have mid : ∀ n, p < n → n ≤ w.2 → ev a n = !ev b n := fun n h1 h2 => by
        have e : n = p + 1 + (n - (p + 1)) := by omega
        rw [e]
        exact ev_part e1 fun j j1 j2 => by
          have := R.run j j1 (by omega)
          rw [ht j (by omega)] at this
          exact ⟨this, by rw [← hab j (by omega)]; exact this⟩
      have st := R.stop
      rw [ht _ (by omega)] at st
      have st2 := st
      rw [hab _ (by omega)] at st2
      have abo : ∀ n, w.2 < n → ev a n = ev b n := fun n h1 => by
        have e : n = w.2 + 1 + (n - (w.2 + 1)) := by omega
        rw [e]
        refine ev_from ?_ fun j j1 j2 => by rw [hab j (by omega)]
        unfold ev
        rw [if_neg st, if_neg st2]
      refine ⟨⟨ok.q, ?_, ok.m, R.row⟩, fun j hj => ?_, fun j hj => ?_, fun j hj => ?_, fun j hj => ?_⟩
      · show Row8 (if _ then _ else _)
        split
        · rename_i q
          have : w.2 ≠ 8 := fun e => by rw [e, h8] at q; cases q
          exact ok.c.turn (by omega) (by omega)
        · exact ok.c
      · show _ ∈ r.q ↔ _; rw [h.q j hj, hq2]
      · show _ ∈ (if _ then _ else _) ↔ _
        by_cases q : t w.2 = 34
        · rw [if_pos q, turn_at ok.c, h.c j hj]
          rw [ht _ (by omega)] at q
          by_cases e : j = w.2
          · rw [if_pos e, e, ← hq2, mid w.2 (by omega) (Nat.le_refl _)]
            cases ev b w.2 <;> simp [q]
          · rw [if_neg e, hq2]
            by_cases c1 : j ≤ p
            · rw [bel j c1]
            · by_cases c2 : w.2 < j
              · rw [abo j c2]
              · have := R.run j (by omega) (by omega)
                rw [ht j (by omega), hab j (by omega)] at this
                rw [this]; simp
        · rw [if_neg q, h.c j hj, hq2]
          rw [ht _ (by omega)] at q
          by_cases c1 : j ≤ p
          · rw [bel j c1]
          · by_cases c2 : w.2 < j
            · rw [abo j c2]
            · by_cases e : j = w.2
              · rw [e, ← hq2]; simp [q]
              · have := R.run j (by omega) (by omega)
                rw [ht j (by omega), hab j (by omega)] at this
                rw [this]; simp
      · show _ ∈ r.m ↔ _; rw [h.m j hj, hm2]
      · show _ ∈ w.1 ↔ _
        rw [R.mem j, turn_at ok.b, h.b j hj]
        by_cases c1 : j < p
        · rw [if_neg (by omega), if_neg (by omega), bel j (by omega), hab j (by omega)]
        · by_cases c0 : j = p
          · subst c0
            rw [if_neg (by omega), if_pos rfl, ← evp, e0]; simpa using hx
          · by_cases c2 : j < w.2
            · have := R.run j (by omega) (by omega)
              rw [ht j (by omega)] at this
              have t2 := this
              rw [hab j (by omega)] at t2
              rw [if_pos (by omega), if_neg c0, this, t2, mid j (by omega) (by omega)]
              cases ev b j <;> simp
            · rw [if_neg (by omega), if_neg c0, ← hab j c0]
              by_cases e : j = w.2
              · rw [e]; simp [st]
              · rw [abo j (by omega)]
  · rw [if_neg (fun w => k92 w.1)]
    have np : Neu (a p) ∧ Neu (b p) := by unfold Neu at *; omega
    obtain ⟨na, nb⟩ := np
    have hev2 : ∀ n, ev a n = ev b n := fun n => ev_congr fun j _ => by
      by_cases e : j = p
      · subst e; simp [na.2.2, nb.2.2]
      · rw [hab j e]
    have same : ∀ j, (a j = 34 ↔ b j = 34) ∧ (a j = 44 ↔ b j = 44) ∧ (a j = 92 ↔ b j = 92) := fun j => by
      by_cases e : j = p
      · subst e; simp [na.1, na.2.1, na.2.2, nb.1, nb.2.1, nb.2.2]
      · rw [hab j e]; simp
    refine ⟨ok, fun j hj => ?_, fun j hj => ?_, fun j hj => ?_, fun j hj => ?_⟩
    · rw [h.q j hj, (same j).1]
    · rw [h.c j hj, (same j).1, hev2]
    · rw [h.m j hj, (same j).2.1]
    · rw [h.b j hj, (same j).2.2, hev2]
end Mine
end
-- part P6
section
namespace Mine
theorem nextOr_spec {l : List Int} (u : Up l) (high : Int) : nextOr l high ≤ high ∧ (∀ z ∈ l, nextOr l high ≤ z) ∧ (nextOr l high < high → nextOr l high ∈ l) := by
  unfold nextOr
  cases l with
  | nil => exact ⟨Int.le_refl _, fun z hz => (by cases hz), fun h => absurd h (Int.lt_irrefl _)⟩
  | cons a r =>
    have ha := (List.pairwise_cons.mp u).1
    refine ⟨by show min a high ≤ high; omega, fun z hz => ?_, fun h => ?_⟩
    · show min a high ≤ z
      rcases List.mem_cons.mp hz with e | hz
      · omega
      · have := ha z hz; omega
    · have h' : min a high < high := h
      have e : min a high = a := by omega
      show min a high ∈ _
      rw [e]; exact .head _
theorem opn_spec {r : R4} (ok : r.Ok) (spot high : Int) (h : spot ≤ high) : spot ≤ opn r spot high ∧ opn r spot high ≤ high ∧ (∀ z ∈ r.q, spot ≤ z → opn r spot high ≤ z) ∧ (opn r spot high < high → opn r spot high ∈ r.q) := by
  have u := ok.q.up
  have e : opn r spot high = nextOr (r.q.filter (fun y => decide (spot ≤ y))) high := by unfold opn; rw [drop_bl u]
  have s := nextOr_spec (l := r.q.filter (fun y => decide (spot ≤ y))) (List.Pairwise.filter _ u) high
  rw [← e] at s
  have hin : opn r spot high < high → opn r spot high ∈ r.q ∧ spot ≤ opn r spot high := fun q => by
    have := s.2.2 q
    simpa using this
  refine ⟨?_, s.1, fun z hz hs => s.2.1 z (List.mem_filter.mpr ⟨hz, by simpa using hs⟩), fun q => (hin q).1⟩
  by_cases q : opn r spot high < high
  · exact (hin q).2
  · omega
theorem cls_spec {r : R4} (ok : r.Ok) (op high : Int) (h : op ≤ high) : op ≤ cls r op high ∧ cls r op high ≤ high ∧ (∀ z ∈ r.c, op < z → cls r op high ≤ z) ∧ (cls r op high < high → cls r op high ∈ r.c ∧ op < cls r op high) := by
  have u := ok.c.up
  have e : cls r op high = nextOr (r.c.filter (fun y => decide (op < y))) high := by unfold cls; rw [drop_br u]
  have s := nextOr_spec (l := r.c.filter (fun y => decide (op < y))) (List.Pairwise.filter _ u) high
  rw [← e] at s
  have hin : cls r op high < high → cls r op high ∈ r.c ∧ op < cls r op high := fun q => by
    have := s.2.2 q
    simpa using this
  refine ⟨?_, s.1, fun z hz hs => s.2.1 z (List.mem_filter.mpr ⟨hz, by simpa using hs⟩), hin⟩
  by_cases q : cls r op high < high
  · have := (hin q).2; omega
  · omega
theorem between_filter {l : List Int} (u : Up l) {a b : Int} (h : a ≤ b) : between l a b = l.filter (fun y => decide (a ≤ y) && decide (y < b)) := by
  unfold between
  rw [take_bl u]
  have e : bl l a = bl (l.filter (fun y => decide (y < b))) a := by
    unfold bl
    rw [List.filter_filter]
    congr 3
    funext y
    by_cases q : y < a
    · simp [q]; omega
    · simp [q]
  rw [e, drop_bl (List.Pairwise.filter _ u), List.filter_filter]
theorem mem_between {l : List Int} (u : Up l) {a b z : Int} (h : a ≤ b) : z ∈ between l a b ↔ z ∈ l ∧ a ≤ z ∧ z < b := by
  rw [between_filter u h]; simp
/-- the reader's state after n signs from low on -/
def sn (t : Nat → Nat) (low : Nat) : Nat → PS
  | 0 => pinit
  | n + 1 => pstep (sn t low n) (t (low + n))
/-- the same, by the place it has come to -/
def at_ (t : Nat → Nat) (low k : Nat) : PS := sn t low (k - low)
theorem at_succ {t : Nat → Nat} {low k : Nat} (h : low ≤ k) : at_ t low (k + 1) = pstep (at_ t low k) (t k) := by
  unfold at_
  rw [show k + 1 - low = (k - low) + 1 by omega]
  show pstep _ _ = _
  rw [show low + (k - low) = k by omega]
theorem at_low {t : Nat → Nat} {low : Nat} : at_ t low low = pinit := by unfold at_; rw [Nat.sub_self]; rfl
/-- a comma that cuts; a backslash that goes -/
def Cut (t : Nat → Nat) (low k : Nat) : Prop := (at_ t low k).esc = false ∧ (at_ t low k).quo = false ∧ t k = 44
def Gone (t : Nat → Nat) (low k : Nat) : Prop := (at_ t low k).esc = false ∧ (at_ t low k).quo = true ∧ t k = 92
def Out (p : PS) : Prop := p.esc = false ∧ p.quo = false
theorem out_step {p : PS} {c : Nat} (h : Out p) (hc : c ≠ 34) : Out (pstep p c) := by
  unfold Out pstep at *
  obtain ⟨h1, h2⟩ := h
  rw [h1, h2]
  by_cases q : c = 44 <;> simp [q, h1, h2, hc]
theorem open_step {p : PS} {c : Nat} (h : Out p) (hc : c = 34) : (pstep p c).esc = false ∧ (pstep p c).quo = true := by
  unfold Out pstep at *
  obtain ⟨h1, h2⟩ := h
  rw [h1, h2]
  simp [h1, hc]
/-- the while's states tell the reader's -/
structure TellsAt (t : Nat → Nat) (low : Nat) (high spot : Int) (c g : List Int) : Prop where
  lo : (low : Int) ≤ spot
  hi : spot ≤ high + 1
  up : Up c
  c : ∀ z, z ∈ c ↔ ∃ k : Nat, z = (k : Int) ∧ low ≤ k ∧ (k : Int) < spot ∧ (k : Int) < high ∧ Cut t low k
  g : ∀ z, z ∈ g ↔ ∃ k : Nat, z = (k : Int) ∧ low ≤ k ∧ (k : Int) < spot ∧ (k : Int) < high ∧ Gone t low k
  out : spot ≤ high → Out (at_ t low spot.toNat)
theorem tells {t : Nat → Nat} {low : Nat} {high spot : Int} {c g : List Int} {r : R4} (hr : IsRows t r) (hlh : (low : Int) ≤ high) (hh : high ≤ 8) (tr : TR r low high spot c g) : TellsAt t low high spot c g := by
  induction tr with
  | start =>
    refine ⟨Int.le_refl _, by omega, List.Pairwise.nil, fun z => ?_, fun z => ?_, fun _ => ?_⟩
    · constructor
      · intro h; cases h
      · rintro ⟨k, rfl, h1, h2, _⟩; omega
    · constructor
      · intro h; cases h
      · rintro ⟨k, rfl, h1, h2, _⟩; omega
    · rw [show ((low : Int)).toNat = low by omega, at_low]; exact ⟨rfl, rfl⟩
  | step tr hlt ih =>
    rename_i spot c g
    have l0 := ih.lo
    have out0 := ih.out (by omega)
    have O := opn_spec hr.ok spot high (by omega)
    generalize opn r spot high = op at *
    obtain ⟨o1, o2, o3, o4⟩ := O
    have C := cls_spec hr.ok op high o2
    generalize cls r op high = cl at *
    obtain ⟨c1, c2, c3, c4⟩ := C
    have hmx : mx spot cl = cl := by have := mx_spec spot cl; omega
    rw [hmx]
    -- outside, up to the opening quote
    have outs : ∀ n : Nat, spot + n ≤ op → Out (at_ t low (spot.toNat + n)) := by
      intro n
      induction n with
      | zero => intro _; exact out0
      | succ n ih2 =>
        intro hn
        have i2 := ih2 (by omega)
        rw [show spot.toNat + (n + 1) = (spot.toNat + n) + 1 by omega, at_succ (by omega)]
        refine out_step i2 fun q => ?_
        have hm := (hr.q (spot.toNat + n) (by omega)).mpr q
        have := o3 _ hm (by omega)
        omega
    have outk : ∀ k : Nat, spot ≤ (k : Int) → (k : Int) ≤ op → Out (at_ t low k) := fun k h1 h2 => by
      have := outs (k - spot.toNat) (by omega)
      rwa [show spot.toNat + (k - spot.toNat) = k by omega] at this
    -- inside
    have ins : op < high → ∀ n : Nat, op + 1 + n ≤ cl → (at_ t low (op.toNat + 1 + n)).quo = true ∧ (at_ t low (op.toNat + 1 + n)).esc = !ev t (op.toNat + 1 + n) := by
      intro ho n
      have hq := o4 ho
      have hq2 := (hr.q op.toNat (by omega)).mp (by rwa [show ((op.toNat : Nat) : Int) = op by omega])
      induction n with
      | zero =>
        intro _
        have os := open_step (outk op.toNat (by omega) (by omega)) hq2
        rw [Nat.add_zero, at_succ (by omega)]
        refine ⟨os.2, ?_⟩
        rw [os.1]
        unfold ev
        rw [hq2]; rfl
      | succ n ih2 =>
        intro hn
        have i2 := ih2 (by omega)
        have ncl : ((op.toNat + 1 + n : Nat) : Int) ∉ r.c := fun q => by
          have := c3 _ q (by omega)
          omega
        have hc := hr.c (op.toNat + 1 + n) (by omega)
        rw [show op.toNat + 1 + (n + 1) = (op.toNat + 1 + n) + 1 by omega, at_succ (by omega)]
        generalize op.toNat + 1 + n = k at *
        obtain ⟨i3, i4⟩ := i2
        have hev : ev t (k + 1) = if t k = 92 then !ev t k else true := rfl
        rw [hev]
        unfold pstep
        rw [i4, i3]
        by_cases e : ev t k = true
        · have n34 : t k ≠ 34 := fun q => ncl (hc.mpr ⟨q, e⟩)
          by_cases q : t k = 92
          · simp [e, q, i3]
          · simp [e, q, n34, i3, i4]
        · have e' : ev t k = false := by simpa using e
          by_cases q : t k = 92 <;> simp [e', q, i3]
    have insk : op < high → ∀ k : Nat, op < (k : Int) → (k : Int) ≤ cl → (at_ t low k).quo = true ∧ (at_ t low k).esc = !ev t k := fun ho k h1 h2 => by
      have := ins ho (k - (op.toNat + 1)) (by omega)
      rwa [show op.toNat + 1 + (k - (op.toNat + 1)) = k by omega] at this
    -- what each place is
    have cutk : ∀ k : Nat, spot ≤ (k : Int) → (k : Int) < cl + 1 → (k : Int) < high → (Cut t low k ↔ (k : Int) < op ∧ (k : Int) ∈ r.m) := by
      intro k h1 h2 h3
      have hm := hr.m k (by omega)
      by_cases q : (k : Int) < op
      · have := outk k h1 (by omega)
        unfold Cut
        rw [hm]
        simp [this.1, this.2, q]
      · by_cases q2 : (k : Int) = op
        · have hq := o4 (by omega)
          rw [← q2] at hq
          have := (hr.q k (by omega)).mp hq
          unfold Cut
          simp [this, q]
        · have := insk (by omega) k (by omega) (by omega)
          unfold Cut
          simp [this.1, q]
    have gonek : ∀ k : Nat, spot ≤ (k : Int) → (k : Int) < cl + 1 → (k : Int) < high → (Gone t low k ↔ op ≤ (k : Int) ∧ (k : Int) < cl ∧ (k : Int) ∈ r.b) := by
      intro k h1 h2 h3
      have hb := hr.b k (by omega)
      by_cases q : (k : Int) < op
      · have := outk k h1 (by omega)
        unfold Gone
        simp [this.2]; omega
      · by_cases q2 : (k : Int) = op
        · have hq := o4 (by omega)
          rw [← q2] at hq
          have := (hr.q k (by omega)).mp hq
          unfold Gone
          rw [hb]
          simp [this]
        · by_cases q3 : (k : Int) = cl
          · have hq := (c4 (by omega)).1
            rw [← q3] at hq
            have := (hr.c k (by omega)).mp hq
            unfold Gone
            rw [hb]
            simp [this.1]
          · have := insk (by omega) k (by omega) (by omega)
            unfold Gone
            rw [hb, this.1, this.2]
            constructor
            · rintro ⟨a, _, b⟩
              exact ⟨by omega, by omega, b, by simpa using a⟩
            · rintro ⟨_, _, b, a⟩
              exact ⟨by simp [a], rfl, b⟩
    have mnat : ∀ z, z ∈ r.m → ∃ k : Nat, z = (k : Int) := fun z hz => by
      have := hr.ok.m.at8 z hz; exact ⟨z.toNat, by omega⟩
    have bnat : ∀ z, z ∈ r.b → ∃ k : Nat, z = (k : Int) := fun z hz => by
      have := hr.ok.b.at8 z hz; exact ⟨z.toNat, by omega⟩
    refine ⟨by omega, by omega, ?_, fun z => ?_, fun z => ?_, fun hsp => ?_⟩
    · refine List.pairwise_append.mpr ⟨ih.up, ?_, fun a ha b hb => ?_⟩
      · rw [between_filter hr.ok.m.up o1]; exact List.Pairwise.filter _ hr.ok.m.up
      · obtain ⟨k, rfl, _, h1, _⟩ := (ih.c a).mp ha
        have := (mem_between hr.ok.m.up o1).mp hb
        omega
    · rw [List.mem_append, ih.c, mem_between hr.ok.m.up o1]
      constructor
      · rintro (⟨k, rfl, h1, h2, h3, h4⟩ | ⟨h1, h2, h3⟩)
        · exact ⟨k, rfl, h1, by omega, h3, h4⟩
        · obtain ⟨k, rfl⟩ := mnat z h1
          exact ⟨k, rfl, by omega, by omega, by omega, (cutk k h2 (by omega) (by omega)).mpr ⟨h3, h1⟩⟩
      · rintro ⟨k, rfl, h1, h2, h3, h4⟩
        by_cases q : (k : Int) < spot
        · exact .inl ⟨k, rfl, h1, q, h3, h4⟩
        · have := (cutk k (by omega) h2 h3).mp h4
          exact .inr ⟨this.2, by omega, this.1⟩
    · rw [List.mem_append, ih.g, mem_between hr.ok.b.up c1]
      constructor
      · rintro (⟨k, rfl, h1, h2, h3, h4⟩ | ⟨h1, h2, h3⟩)
        · exact ⟨k, rfl, h1, by omega, h3, h4⟩
        · obtain ⟨k, rfl⟩ := bnat z h1
          exact ⟨k, rfl, by omega, by omega, by omega, (gonek k (by omega) (by omega) (by omega)).mpr ⟨h2, h3, h1⟩⟩
      · rintro ⟨k, rfl, h1, h2, h3, h4⟩
        by_cases q : (k : Int) < spot
        · exact .inl ⟨k, rfl, h1, q, h3, h4⟩
        · have := (gonek k (by omega) h2 h3).mp h4
          exact .inr ⟨this.2.2, this.1, this.2.1⟩
    · have hc := c4 (by omega)
      have hcc := (hr.c cl.toNat (by omega)).mp (by rw [show ((cl.toNat : Nat) : Int) = cl by omega]; exact hc.1)
      have := insk (by omega) cl.toNat (by omega) (by omega)
      rw [show (cl + 1).toNat = cl.toNat + 1 by omega, at_succ (by omega)]
      generalize cl.toNat = k at *
      obtain ⟨i3, i4⟩ := this
      unfold Out pstep
      rw [i4, i3, hcc.1, hcc.2]
      simp
end Mine
end
-- part P7
section
namespace Mine
theorem parts_snoc (t : Nat → Nat) (low e k : Int) (c g : List Int) : partsP t low e (c ++ [k]) g = partsP t low k c g ++ [pick t g (k + 1) e] := by
  unfold partsP
  rw [List.map_append, ← List.cons_append, List.zip_append (by simp), List.map_append]
  rfl
theorem parts_grow (t : Nat → Nat) (low : Int) (g : List Int) (k : Int) (hk : low ≤ k) (c : List Int) (hc : ∀ z ∈ c, z < k) (h0 : 0 ≤ low) (hc0 : ∀ z ∈ c, 0 ≤ z) : ∃ (b : Int) (a : List (List Nat)), 0 ≤ b ∧ b ≤ k ∧ ∀ e, partsP t low e c g = a ++ [pick t g b e] := by
  rcases List.eq_nil_or_concat c with h | ⟨c', z, h⟩
  · subst h
    exact ⟨low, [], h0, hk, fun e => rfl⟩
  · rw [List.concat_eq_append] at h
    subst h
    have h1 := hc z (by simp)
    have h2 := hc0 z (by simp)
    exact ⟨z + 1, partsP t low z c' g, by omega, by omega, fun e => parts_snoc t low e z c' g⟩
theorem pick_nil (t : Nat → Nat) (g : List Int) (b : Int) : pick t g b b = [] := by
  unfold pick
  rw [show (b - b).toNat = 0 by omega]
  rfl
theorem pick_grow (t : Nat → Nat) (g : List Int) {b : Int} {k : Nat} (h0 : 0 ≤ b) (h : b ≤ (k : Int)) : pick t g b ((k : Int) + 1) = pick t g b k ++ (if (k : Int) ∈ g then [] else [t k]) := by
  unfold pick
  have e : ((k : Int) + 1 - b).toNat = ((k : Int) - b).toNat + 1 := by omega
  have e2 : b + ((((k : Int) - b).toNat : Nat) : Int) = k := by omega
  rw [e, List.range_succ, List.filter_append, List.map_append]
  congr 1
  by_cases q : (k : Int) ∈ g
  · rw [if_pos q, List.filter_cons_of_neg]
    · rfl
    · rw [e2]
      have : (g.any fun z => z == (k : Int)) = true := List.any_eq_true.mpr ⟨_, q, by simp⟩
      rw [this]; simp
  · rw [if_neg q, List.filter_cons_of_pos]
    · show [t _] = _
      rw [e2]; rfl
    · rw [e2]
      have : (g.any fun z => z == (k : Int)) = false := by
        refine List.any_eq_false.mpr fun z hz w => q ?_
        have : z = (k : Int) := by simpa using w
        rwa [← this]
      rw [this]; rfl
theorem cut_snoc {c : List Int} (u : Up c) {k : Nat} (h : (k : Int) ∈ c) : c.filter (fun z => decide (z < (k : Int) + 1)) = c.filter (fun z => decide (z < (k : Int))) ++ [(k : Int)] := by
  refine up_ext (List.Pairwise.filter _ u) (List.pairwise_append.mpr ⟨List.Pairwise.filter _ u, by simp, fun a ha b hb => ?_⟩) fun z => ?_
  · rw [List.mem_singleton.mp hb]
    simpa using (List.mem_filter.mp ha).2
  · simp only [List.mem_append, List.mem_filter, decide_eq_true_eq, List.mem_singleton]
    constructor
    · rintro ⟨a, b⟩
      by_cases q : z = (k : Int)
      · exact .inr q
      · exact .inl ⟨a, by omega⟩
    · rintro (⟨a, b⟩ | a)
      · exact ⟨a, by omega⟩
      · exact ⟨a ▸ h, by omega⟩
theorem cut_same {c : List Int} {k : Nat} (h : (k : Int) ∉ c) : c.filter (fun z => decide (z < (k : Int) + 1)) = c.filter (fun z => decide (z < (k : Int))) := by
  refine List.filter_congr fun z hz => ?_
  have : z ≠ (k : Int) := fun q => h (q ▸ hz)
  exact decide_eq_decide.mpr (by omega)
/-- the reader's parts are the told ones -/
theorem parts_at_place {t : Nat → Nat} {low high : Nat} {c g : List Int} (u : Up c) (hc : ∀ z, z ∈ c ↔ ∃ k : Nat, z = (k : Int) ∧ low ≤ k ∧ k < high ∧ Cut t low k)
    (hg : ∀ z, z ∈ g ↔ ∃ k : Nat, z = (k : Int) ∧ low ≤ k ∧ k < high ∧ Gone t low k) : ∀ n : Nat, low + n ≤ high →
    (at_ t low (low + n)).res ++ [(at_ t low (low + n)).part] = partsP t low ((low + n : Nat) : Int) (c.filter (fun z => decide (z < ((low + n : Nat) : Int)))) g
  | 0, _ => by
    rw [Nat.add_zero, at_low]
    have e : c.filter (fun z => decide (z < (low : Int))) = [] := List.filter_eq_nil_iff.mpr fun z hz => by
      obtain ⟨k, rfl, h1, _⟩ := (hc z).mp hz
      simp; omega
    rw [e]
    show [[]] = [pick t g low low]
    rw [pick_nil]
  | n + 1, hn => by
    have ih := parts_at_place u hc hg n (by omega)
    rw [show low + (n + 1) = (low + n) + 1 by omega, at_succ (by omega)]
    have hk1 : low ≤ low + n := by omega
    have hk2 : low + n < high := by omega
    generalize low + n = k at *
    have ck : (k : Int) ∈ c ↔ Cut t low k := by
      rw [hc]
      constructor
      · rintro ⟨j, e, _, _, h⟩
        have : k = j := by omega
        exact this ▸ h
      · exact fun h => ⟨k, rfl, hk1, hk2, h⟩
    have gk : (k : Int) ∈ g ↔ Gone t low k := by
      rw [hg]
      constructor
      · rintro ⟨j, e, _, _, h⟩
        have : k = j := by omega
        exact this ▸ h
      · exact fun h => ⟨k, rfl, hk1, hk2, h⟩
    have ec : ((k + 1 : Nat) : Int) = (k : Int) + 1 := by omega
    rw [ec]
    by_cases qc : Cut t low k
    · rw [cut_snoc u (ck.mpr qc), parts_snoc, pick_nil, ← ih]
      obtain ⟨h1, h2, h3⟩ := qc
      unfold pstep
      rw [h1, h2, h3]
      simp
    · rw [cut_same (fun q => qc (ck.mp q))]
      obtain ⟨b, a, b0, bk, e⟩ := parts_grow t low g k (by omega) (c.filter (fun z => decide (z < (k : Int)))) (fun z hz => by simpa using (List.mem_filter.mp hz).2) (by omega) (fun z hz => by
        obtain ⟨j, rfl, _⟩ := (hc z).mp (List.mem_filter.mp hz).1
        omega)
      rw [e] at ih ⊢
      rw [pick_grow t g b0 bk]
      obtain ⟨i1, i2⟩ := List.append_inj' ih rfl
      have i3 : (at_ t low k).part = pick t g b k := by simpa using i2
      rw [← i3, ← i1]
      have q1 : ¬ ((at_ t low k).esc = false ∧ (at_ t low k).quo = false ∧ t k = 44) := qc
      have q2 : (k : Int) ∈ g ↔ ((at_ t low k).esc = false ∧ (at_ t low k).quo = true ∧ t k = 92) := gk
      clear ih e i1 i2 i3 qc ck gk hc hg
      generalize at_ t low k = p at *
      generalize t k = x at *
      by_cases qg : (k : Int) ∈ g
      · rw [if_pos qg, List.append_nil]
        obtain ⟨h1, h2, h3⟩ := q2.mp qg
        unfold pstep
        rw [h1, h2, h3]
        simp
      · rw [if_neg qg]
        rw [q2] at qg
        unfold pstep
        by_cases e1 : p.esc = true
        · rw [if_pos e1]
        · rw [if_neg e1]
          have e1' : p.esc = false := by simpa using e1
          by_cases e2 : p.quo = true
          · rw [if_pos e2, if_neg (fun w => qg ⟨e1', e2, w⟩)]
          · have e2' : p.quo = false := by simpa using e2
            rw [if_neg e2, if_neg (fun w => q1 ⟨e1', e2', w⟩)]
theorem fold_at {t : Nat → Nat} {l : List Nat} (ht : ∀ i, t i = l.getD i 0) (low : Nat) : ∀ n : Nat, low + n ≤ l.length → ((l.take (low + n)).drop low).foldl pstep pinit = at_ t low (low + n)
  | 0, _ => by
    rw [Nat.add_zero, at_low, List.drop_eq_nil_of_le (by rw [List.length_take]; omega)]
    rfl
  | n + 1, h => by
    have ih := fold_at ht low n (by omega)
    have hl : low + n < l.length := by omega
    rw [show low + (n + 1) = (low + n) + 1 by omega, at_succ (by omega), ← ih, List.take_add_one, List.drop_append_of_le_length (by rw [List.length_take]; omega), List.foldl_append]
    have e : l[low + n]?.toList = [t (low + n)] := by
      rw [ht, List.getElem?_eq_getElem hl]
      simp [List.getD, hl]
    rw [e]
    rfl
theorem told_eq {l : List Nat} {t : Nat → Nat} (ht : ∀ i, t i = l.getD i 0) (h8 : l.length = 8) {r : R4} (hr : IsRows t r) {low high : Nat} (hlh : low ≤ high) (hh : high ≤ 8) {spot : Int} {c g : List Int}
    (tr : TR r low high spot c g) (hge : ¬ spot < (high : Int)) : parseL ((l.take high).drop low) = dropE (partsP t low high c g) := by
  have T := tells hr (by omega) (by omega) tr
  have hc : ∀ z, z ∈ c ↔ ∃ k : Nat, z = (k : Int) ∧ low ≤ k ∧ k < high ∧ Cut t low k := fun z => by
    rw [T.c]
    constructor
    · rintro ⟨k, a, b, _, d, e⟩; exact ⟨k, a, b, by omega, e⟩
    · rintro ⟨k, a, b, d, e⟩; exact ⟨k, a, b, by omega, by omega, e⟩
  have hg : ∀ z, z ∈ g ↔ ∃ k : Nat, z = (k : Int) ∧ low ≤ k ∧ k < high ∧ Gone t low k := fun z => by
    rw [T.g]
    constructor
    · rintro ⟨k, a, b, _, d, e⟩; exact ⟨k, a, b, by omega, e⟩
    · rintro ⟨k, a, b, d, e⟩; exact ⟨k, a, b, by omega, by omega, e⟩
  have P := parts_at_place (high := high) (g := g) T.up hc hg (high - low) (by omega)
  have F := fold_at ht low (high - low) (by omega)
  rw [show low + (high - low) = high by omega] at P F
  have ec : c.filter (fun z => decide (z < (high : Int))) = c := List.filter_eq_self.mpr fun z hz => by
    obtain ⟨k, rfl, _, h, _⟩ := (hc z).mp hz
    simp; omega
  rw [ec] at P
  unfold parseL
  rw [F, ← P]
  unfold pfin dropE
  simp
end Mine
end
-- part S1
section
open PySem PyProof.Rows Builtin.Str
namespace Mine
theorem idx_plain (i j n : Nat) : strSliceIndices (some (i : Int)) (some (j : Int)) 1 n = (List.range (min j n - min i n)).map (fun k => min i n + k) := by
  have h1 : ¬ ((i : Int) < 0) := by omega
  have h2 : ¬ ((j : Int) < 0) := by omega
  have e1 : max (0 : Int) (min (i : Int) n) = ((min i n : Nat) : Int) := by omega
  have e2 : max (0 : Int) (min (j : Int) n) = ((min j n : Nat) : Int) := by omega
  simp only [strSliceIndices, sliceRange, h1, h2, if_false, e1, e2, show ((1 : Int) > 0) = True from by simp, if_true]
  generalize min i n = a
  generalize min j n = b
  have e3 : (if (a : Int) < (b : Int) then ((b : Int) - a + 1 - 1) / 1 else 0).toNat = b - a := by split <;> omega
  rw [e3]
  refine List.map_congr_left fun k _ => ?_
  omega
theorem slice_toList (x : Str) (i j : Nat) : (Txt.slice x (some (i : Int)) (some (j : Int))).cps.toList = (x.cps.toList.take j).drop i := by
  have hn : x.cps.toList.length = x.length := by simp [Str.length]
  have key : ((x.cps.toList.drop (min i x.length)).take (min j x.length - min i x.length)) = (x.cps.toList.take j).drop i := by
    generalize hl : x.cps.toList = l at hn
    rw [← hn]
    apply List.ext_getElem?
    intro k
    simp only [List.getElem?_take, List.getElem?_drop]
    by_cases h1 : i + k < min j l.length
    · rw [if_pos (by omega), if_pos (by omega), show min i l.length + k = i + k by omega]
    · rw [if_neg (by omega)]
      by_cases h2 : i + k < j
      · rw [if_pos h2, List.getElem?_eq_none (by omega)]
      · rw [if_neg h2]
  unfold Txt.slice
  rw [idx_plain]
  split
  · rename_i h
    simp at h
    rw [← key]
    have : min j x.length - min i x.length = x.cps.toList.length := by omega
    rw [this]
    rw [List.take_of_length_le (by rw [List.length_drop]; omega)]
    have : min i x.length = 0 ∨ x.length = 0 := by omega
    rcases this with e | e
    · rw [e, List.drop_zero]
    · have : x.cps.toList = [] := List.eq_nil_of_length_eq_zero (by omega)
      rw [this, List.drop_nil]
  · show (List.filterMap (fun k => x.cps[k]?) _) = _
    rw [← key, ← StrLaws.picks _ _ _ (by omega)]
    simp
theorem slice_lo (x : Str) (i : Nat) : (Txt.slice x (some (i : Int)) none).cps.toList = x.cps.toList.drop i := by
  have : Txt.slice x (some (i : Int)) none = Txt.slice x (some (i : Int)) (some ((x.length : Nat) : Int)) := by
    unfold Txt.slice; rw [StrLaws.sliceIdx_none_hi]
  rw [this, slice_toList, List.take_of_length_le (by simp [Str.length])]
theorem slice_hi (x : Str) (j : Nat) : (Txt.slice x none (some (j : Int))).cps.toList = x.cps.toList.take j := by
  have : Txt.slice x none (some (j : Int)) = Txt.slice x (some ((0 : Nat) : Int)) (some (j : Int)) := by
    unfold Txt.slice; rw [StrLaws.sliceIdx_none_lo]; rfl
  rw [this, slice_toList, List.drop_zero]
/-- the sign at a place; 0 beyond -/
def at0 (x : Str) (i : Nat) : Nat := x.cps.toList.getD i 0
theorem str_ext {x y : Str} (h : x.cps.toList = y.cps.toList) : x = y := by
  obtain ⟨a⟩ := x
  obtain ⟨b⟩ := y
  simp only [Array.toList_inj] at h
  rw [h]
theorem one_eq (k c : Nat) : ((⟨#[k]⟩ : Str) == ⟨#[c]⟩) = decide (k = c) := by
  by_cases h : k = c
  · subst h; simp
  · rw [decide_eq_false h]
    refine beq_eq_false_iff_ne.mpr fun e => h ?_
    have := congrArg Str.cps e
    simpa using this
theorem getD_at {l : List Nat} {i : Nat} (h : i < l.length) : l.getD i 0 = l[i] := by simp [List.getD, h]
theorem slice_one (x : Str) (i c : Nat) (hc : c ≠ 0) : (Txt.slice x (some (i : Int)) (some ((i : Int) + 1)) == ⟨#[c]⟩) = decide (at0 x i = c) := by
  have e : (Txt.slice x (some (i : Int)) (some ((i : Int) + 1))).cps.toList = (x.cps.toList.drop i).take 1 := by
    rw [show ((i : Int) + 1) = ((i + 1 : Nat) : Int) by omega, slice_toList, List.drop_take, show i + 1 - i = 1 by omega]
  unfold at0
  by_cases h : i < x.cps.toList.length
  · have q : (x.cps.toList.drop i).take 1 = [x.cps.toList.getD i 0] := by
      rw [List.drop_eq_getElem_cons h, List.take_succ_cons, List.take_zero, getD_at h]
    rw [q] at e
    have : Txt.slice x (some (i : Int)) (some ((i : Int) + 1)) = ⟨#[x.cps.toList.getD i 0]⟩ := str_ext (by rw [e])
    rw [this, one_eq]
  · have q : (x.cps.toList.drop i).take 1 = [] := by
      rw [List.drop_eq_nil_of_le (by omega), List.take_nil]
    have q2 : x.cps.toList.getD i 0 = 0 := by simp only [List.getD]; rw [List.getElem?_eq_none (by omega)]; rfl
    rw [q2, decide_eq_false (Ne.symm hc)]
    refine beq_eq_false_iff_ne.mpr fun e' => ?_
    rw [q, e'] at e
    simp at e
end Mine
end
-- part S2
section
open PySem PySem.W PyProof.Rows
namespace Mine
section
variable {prog : Program} {w : World} {A : Around} {E : Value → Shared → Prop} {s : Shared} {env : Env} {h₀ : Heap} {x : Str} {body : List Stmt} {Q : Flow → Shared → Prop}
/-- a loop over a text's signs -/
theorem iter_str {xt : Str} {tx : Tok} {m₀ : Str → Option Value} {news : List (Addr × Obj)} (J : Nat → (Str → Option Value) → List (Addr × Obj) → Prop)
    (hh : A.handled = none) (F : Fr h₀ env.locals s.heap m₀) (N : News h₀ env.locals s.heap news) (hj : J 0 m₀ news)
    (turn : ∀ i c u m₁ news₁ h tk own, xt.cps.toList[i]? = some c → news₁.map (·.1) = news.map (·.1) → OwnOff own (news.map (·.1)) → J i m₁ news₁ → Fr h₀ env.locals h (fun y => if y = x then some (.str ⟨#[c]⟩ u) else m₁ y) → News h₀ env.locals h (news₁ ++ own) →
      wpAny (model prog w) A (execs body env) (InvPostN h₀ env.locals (J (i + 1)) own (news.map (·.1)) { s with heap := h, toks := tk } Q) E { s with heap := h, toks := tk })
    (done : ∀ m₁ news₁ h tk, J xt.cps.toList.length m₁ news₁ → Fr h₀ env.locals h m₁ → News h₀ env.locals h news₁ → Q .next { s with heap := h, toks := tk }) :
    wpAny (model prog w) A (pyIter (.str xt tx)) (fun it s₂ => LoopAtV prog w A h₀ env x body Q E it s₂) E s := by
  refine wpAny_pyIter_str fun o St hW hst => ?_
  refine loop_invN J (hW A hh) ?_ ?_ ?_ ?_ hst (F.push _) (fun p hp => ⟨Heap.get?_push_of_some _ (N p hp).1, (N p hp).2⟩) hj ?_ ?_
  · intro hm
    exact absurd F.ns.lt ((List.mem_singleton.mp hm) ▸ Nat.lt_irrefl _)
  · intro b' hb
    rw [List.mem_singleton.mp hb]
    exact next_is_new F
  · intro p hp hI
    exact absurd (Heap.lt_size (N p hp).1) ((List.mem_singleton.mp hI) ▸ Nat.lt_irrefl _)
  · intro p hp hI
    exact absurd (Heap.lt_size (N p hp).1) ((List.mem_singleton.mp hI) ▸ Nat.lt_irrefl _)
  · rintro i v m₁ nx h tk own hi ⟨n, u, hn, rfl⟩ hadr hoff hJ F₁ N₁
    exact turn i n u m₁ nx h tk own (by simpa using hn) hadr hoff hJ F₁ N₁
  · rintro m₁ nx h tk hJ F₁ N₁
    rw [← Array.length_toList] at hJ
    exact done m₁ nx h tk hJ F₁ N₁
theorem invEnd {L : Addr} {J : (Str → Option Value) → List (Addr × Obj) → Prop} {m' : Str → Option Value} {own nx : List (Addr × Obj)} {adr : List Addr} {s₁ : Shared} {h' : Heap} {tk : Nat} (F : Fr h₀ L h' m') (N : News h₀ L h' (nx ++ own))
    (ha : nx.map (·.1) = adr) (hj : J m' nx) : InvEndN h₀ L J own adr s₁ { s₁ with heap := h', toks := tk } :=
  ⟨h', tk, m', nx ++ own, nx, rfl, F, N, fun _ hp => List.mem_append.mpr (.inl hp), fun _ hp => List.mem_append.mpr (.inr hp), ha, hj⟩
end
/-- a text of these signs -/
def mkS (l : List Nat) : Str := ⟨l.toArray⟩
theorem mkS_app (l : List Nat) (c : Nat) : mkS l ++ (⟨#[c]⟩ : Str) = mkS (l ++ [c]) := str_ext (by show ((l.toArray ++ #[c] : Array Nat)).toList = _; simp [mkS])
theorem str_app {l : List Nat} {c : Nat} {t : Tok} : some (Value.str (mkS l ++ (⟨#[c]⟩ : Str)) t) = some (Value.str (mkS (l ++ [c])) t) := by rw [mkS_app]
theorem mkS_len (l : List Nat) : (mkS l).length = l.length := by simp [mkS, Str.length]
theorem mkS_toList (l : List Nat) : (mkS l).cps.toList = l := rfl
end Mine
end
-- part S3
section
open PySem PySem.W PyProof.Rows PyProof.Rows.LCg PyProof.Rows.LCt
namespace Mine
/-- items told by their places -/
def Rels (R : Nat → Value → Prop) : List Nat → List Value → Prop
  | [], [] => True
  | i :: r, y :: ys => R i y ∧ Rels R r ys
  | _, _ => False
theorem Rels.snoc {R : Nat → Value → Prop} : ∀ {is : List Nat} {ys : List Value} {i : Nat} {y : Value}, Rels R is ys → R i y → Rels R (is ++ [i]) (ys ++ [y])
  | [], [], _, _, _, h => ⟨h, trivial⟩
  | _ :: _, _ :: _, _, _, ⟨a, b⟩, h => ⟨a, Rels.snoc b h⟩
  | [], _ :: _, _, _, h, _ => h.elim
  | _ :: _, [], _, _, h, _ => h.elim
theorem Rels.strs {g : Nat → Str} : ∀ {is : List Nat} {ys : List Value}, Rels (fun i y => ∃ t, y = .str (g i) t) is ys → StrsAre ys (is.map g)
  | [], [], _ => .nil
  | i :: _, y :: _, ⟨⟨t, e⟩, b⟩ => by subst e; exact .cons _ t (Rels.strs b)
  | [], _ :: _, h => h.elim
  | _ :: _, [], h => h.elim
theorem Rels.ints {g : Nat → Int} : ∀ {is : List Nat} {ys : List Value}, Rels (fun i y => ∃ t, y = .int (g i) t) is ys → IntsAre ys (is.map g)
  | [], [], _ => .nil
  | i :: _, y :: _, ⟨⟨t, e⟩, b⟩ => by subst e; exact .cons _ t (Rels.ints b)
  | [], _ :: _, h => h.elim
  | _ :: _, [], h => h.elim
theorem strs_at : ∀ {vs : List Value} {l : List (List Nat)} {i : Nat} {v : Value}, StrsAre vs (l.map mkS) → vs[i]? = some v → ∃ t, v = .str (mkS (l.getD i [])) t
  | _, [], i, v, .nil, h => by simp at h
  | _, a :: r, 0, v, .cons _ t h', h => by simp at h; exact ⟨t, by rw [← h]; rfl⟩
  | _, a :: r, i + 1, v, .cons _ t h', h => by
    obtain ⟨u, e⟩ := strs_at h' (i := i) (by simpa using h)
    exact ⟨u, by rw [e]; simp⟩
theorem range_getD (f : List Nat → Str) (l : List (List Nat)) : (List.range l.length).map (fun i => f (l.getD i [])) = l.map f := by
  apply List.ext_getElem?
  intro i
  by_cases h : i < l.length
  · simp [h]
  · simp [h]
theorem Rels.all {f : List Nat → Str} {l : List (List Nat)} {n : Nat} {ys : List Value} (h : Rels (fun i y => ∃ t, y = .str (f (l.getD i [])) t) (List.range n) ys) (hn : n = l.length) : StrsAre ys (l.map f) := by
  subst hn
  have := Rels.strs (g := fun i => f (l.getD i [])) h
  rwa [range_getD f l] at this
section
variable {prog : Program} {w : World} {A : Around} {s : Shared} {h₀ : Heap} {L : Addr} {m : Str → Option Value} {env : Env} {ct elt : Expr} {x : Str} {scope : Scope} {cl : List (Str × Addr)} {S : List (Addr × Obj) → Prop} {P : Nat → Value → Prop}
  {Fin : List Value → List (Addr × Obj) → Prop} {news : List (Addr × Obj)} {n : Nat}
/-- an element, a test of a comprehension is reckoned: the ledger stands -/
def EltEnd (h₀ : Heap) (L : Addr) (m : Str → Option Value) (s : Shared) (led : List (Addr × Obj)) (R : Value → Prop) (y : Value) (s₂ : Shared) : Prop :=
  R y ∧ ∃ h' tk', s₂ = { s with heap := h', toks := tk' } ∧ Fr h₀ L h' m ∧ News h₀ L h' led
def TestEnd (h₀ : Heap) (L : Addr) (m : Str → Option Value) (s : Shared) (led : List (Addr × Obj)) (b : Bool) (ok : Bool) (s₂ : Shared) : Prop :=
  ok = b ∧ ∃ h' tk', s₂ = { s with heap := h', toks := tk' } ∧ Fr h₀ L h' m ∧ News h₀ L h' led
theorem EltEnd.mk {led : List (Addr × Obj)} {R : Value → Prop} {y : Value} {h' : Heap} {tk' : Nat} (hr : R y) (F : Fr h₀ L h' m) (N : News h₀ L h' led) : EltEnd h₀ L m s led R y { s with heap := h', toks := tk' } := ⟨hr, h', tk', rfl, F, N⟩
theorem TestEnd.mk {led : List (Addr × Obj)} {b ok : Bool} {h' : Heap} {tk' : Nat} (hr : ok = b) (F : Fr h₀ L h' m) (N : News h₀ L h' led) : TestEnd h₀ L m s led b ok { s with heap := h', toks := tk' } := ⟨hr, h', tk', rfl, F, N⟩
theorem news_drop {h : Heap} {a b : Addr × Obj} {l : List (Addr × Obj)} (N : News h₀ L h (a :: b :: l)) : News h₀ L h (a :: l) := fun p hp => N p (by
  rcases List.mem_cons.mp hp with e | q
  · rw [e]; exact .head _
  · exact .tail _ (.tail _ q))
/-- a comprehension without a test -/
theorem rest_map (R : Nat → Value → Prop) (hS : S news)
    (he : ∀ i v I oI C oC D m₂ ys h tk (E' : Value → Shared → Prop), i < n → P i v → NsObj oC m₂ → m₂ x = some v → Fr h₀ L h m → News h₀ L h ((I, oI) :: (C, oC) :: (D, lst ys) :: news) →
      wpAny (model prog w) A (eval elt (compEnvC scope cl C env)) (EltEnd h₀ L m s ((I, oI) :: (C, oC) :: (D, lst ys) :: news) (R i)) E' { s with heap := h, toks := tk })
    (fin : ∀ ys, Rels R (List.range n) ys → Fin ys news) : CompRest prog w A h₀ L m env elt x scope cl s S P Fin n 0 [] news := by
  have key : ∀ (j i : Nat) (ys : List Value), i + j = n → Rels R (List.range i) ys → CompRest prog w A h₀ L m env elt x scope cl s S P Fin j i ys news := by
    intro j
    induction j with
    | zero =>
      intro i ys hi hy
      have e : i = n := by omega
      subst e
      exact CompRest.zero (fin ys hy)
    | succ j ih =>
      intro i ys hi hy
      refine CompRest.succ ?_
      intro v I oI C oC D m₂ h tk E' hv hC hx F N off ne
      refine wpAny_mono (he i v I oI C oC D m₂ ys h tk E' (by omega) hv hC hx F N) (fun y s₂ hq => ?_) fun _ _ e => e
      obtain ⟨hR, h', tk', e, F', N'⟩ := hq
      refine ⟨h', tk', news, e, F', N', off, hS, ih (i + 1) _ (by omega) ?_⟩
      rw [List.range_succ]
      exact hy.snoc hR
  exact key n 0 [] (by omega) trivial
/-- a comprehension with a test -/
theorem rest_test (b : Nat → Bool) (R : Nat → Value → Prop) (hS : S news)
    (ht : ∀ i v I oI C oC D m₂ ys h tk (E' : Value → Shared → Prop), i < n → P i v → NsObj oC m₂ → m₂ x = some v → Fr h₀ L h m → News h₀ L h ((I, oI) :: (C, oC) :: (D, lst ys) :: news) →
      wpAny (model prog w) A (isTrue ct (compEnvC scope cl C env) (eval ct (compEnvC scope cl C env))) (TestEnd h₀ L m s ((I, oI) :: (C, oC) :: (D, lst ys) :: news) (b i)) E' { s with heap := h, toks := tk })
    (he : ∀ i v I oI C oC D m₂ ys h tk (E' : Value → Shared → Prop), i < n → b i = true → P i v → NsObj oC m₂ → m₂ x = some v → Fr h₀ L h m → News h₀ L h ((I, oI) :: (C, oC) :: (D, lst ys) :: news) →
      wpAny (model prog w) A (eval elt (compEnvC scope cl C env)) (EltEnd h₀ L m s ((I, oI) :: (C, oC) :: (D, lst ys) :: news) (R i)) E' { s with heap := h, toks := tk })
    (fin : ∀ ys, Rels R ((List.range n).filter b) ys → Fin ys news) : CompRestT prog w A h₀ L m env ct elt x scope cl s S P Fin n 0 [] news := by
  have key : ∀ (j i : Nat) (ys : List Value), i + j = n → Rels R ((List.range i).filter b) ys → CompRestT prog w A h₀ L m env ct elt x scope cl s S P Fin j i ys news := by
    intro j
    induction j with
    | zero =>
      intro i ys hi hy
      have e : i = n := by omega
      subst e
      exact CompRestT.zero (fin ys hy)
    | succ j ih =>
      intro i ys hi hy
      refine CompRestT.succ ?_
      intro v I oI C oC D m₂ h tk E' hv hC hx F N off ne
      refine wpAny_mono (ht i v I oI C oC D m₂ ys h tk E' (by omega) hv hC hx F N) (fun ok s₂ hq => ?_) fun _ _ e => e
      obtain ⟨e1, h', tk', e, F', N'⟩ := hq
      subst e1 e
      cases hb : b i with
      | true =>
        simp only [if_true]
        refine wpAny_mono (he i v I oI C oC D m₂ ys h' tk' E' (by omega) hb hv hC hx F' N') (fun y s₃ hq => ?_) fun _ _ e => e
        obtain ⟨hR, h3, tk3, e, F3, N3⟩ := hq
        refine ⟨h3, tk3, news, e, F3, N3, off, hS, ih (i + 1) _ (by omega) ?_⟩
        rw [List.range_succ, List.filter_append, List.filter_cons_of_pos hb, List.filter_nil]
        exact hy.snoc hR
      | false =>
        simp only [Bool.false_eq_true, if_false]
        refine ⟨h', tk', news, rfl, F', N', off, hS, ih (i + 1) _ (by omega) ?_⟩
        rw [List.range_succ, List.filter_append, List.filter_cons_of_neg (by rw [hb]; exact Bool.false_ne_true), List.filter_nil, List.append_nil]
        exact hy
  exact key n 0 [] (by omega) trivial
end
end Mine
end
-- part S4
section
open PySem PySem.W PyProof.Rows
namespace Mine
section
variable {prog : Program} {w : World} {A : Around} {E : Value → Shared → Prop} {s : Shared} {env : Env} {h₀ : Heap} {target : Expr} {body : List Stmt} {Q : Flow → Shared → Prop}
/-- any turns, by an invariant -/
theorem turns_core {I : Addr} {fp wr : List Addr} {n : Nat} {P Md : Nat → Value → Heap → Prop} {St : Nat → Heap → Prop} {m₀ : Str → Option Value} {news : List (Addr × Obj)} (J : Nat → (Str → Option Value) → List (Addr × Obj) → Prop)
    (W : KTurns prog w A target I fp wr n P Md St) (hLf : env.locals ∉ fp) (hwr : ∀ b ∈ wr, h₀.get? b = none) (hfp : ∀ q ∈ news, q.1 ∉ fp) (hst : St 0 s.heap) (F : Fr h₀ env.locals s.heap m₀) (N : News h₀ env.locals s.heap news) (hj : J 0 m₀ news)
    (turn : ∀ i v m₁ news₁ h tk own, i < n → P i v h → news₁.map (·.1) = news.map (·.1) → OwnOff own (news.map (·.1)) → J i m₁ news₁ → Fr h₀ env.locals h m₁ → News h₀ env.locals h (news₁ ++ own) →
      wpAny (model prog w) A (assign target env v) (fun _ s₃ => wpAny (model prog w) A (execs body env) (InvPostN h₀ env.locals (J (i + 1)) own (news.map (·.1)) { s with heap := h, toks := tk } Q) E s₃) E { s with heap := h, toks := tk })
    (done : ∀ m₁ news₁ h tk, J n m₁ news₁ → Fr h₀ env.locals h m₁ → News h₀ env.locals h news₁ → Q .next { s with heap := h, toks := tk }) :
    TurnsAt prog w A h₀ env target body Q E (.ref I) s := by
  let J' : Nat → (Str → Option Value) → List (Addr × Obj) → Prop := fun i m₁ news₁ => news₁.map (·.1) = news.map (·.1) ∧ J i m₁ news₁
  have hnw : ∀ p ∈ news, p.1 ∉ wr := fun p hp hq => hfp p hp (W.sub _ hq)
  refine ⟨I, fp, wr, n, P, Md, St, m₀, news, J', rfl, W, hLf, hwr, hnw, hst, F, N, ⟨rfl, hj⟩, ?_, ?_⟩
  · rintro i v m₁ news₁ h₁ tk₁ own hin hP ⟨hadr, hJ⟩ hoff hown _ _ _ F₁ N₁
    have hsep : OwnOff own (news.map (·.1)) := by
      intro p hp b hb e
      obtain ⟨q, hq, rfl⟩ := List.mem_map.mp hb
      exact hfp q hq (e ▸ hown p hp)
    have N₂ : News h₀ env.locals h₁ (news₁ ++ own) := fun p hp => N₁ p ((List.mem_append.mp hp).elim (fun h => List.mem_append.mpr (.inr h)) fun h => List.mem_append.mpr (.inl h))
    refine wpAny_mono (turn i v m₁ news₁ h₁ tk₁ own hin hP hadr hsep hJ F₁ N₂) (fun _ s₃ hq => wpAny_mono hq (fun f s₂ p => ?_) fun _ _ e => e) fun _ _ e => e
    have fin : InvEndN h₀ env.locals (J (i + 1)) own (news.map (·.1)) { s with heap := h₁, toks := tk₁ } s₂ → LoopStepU h₀ env.locals wr own (J' (i + 1)) { s with heap := h₁, toks := tk₁ } .next s₂ := by
      rintro ⟨h', tk, m', news', nx, e, F', N', hn, ho, ha, hm⟩
      refine ⟨rfl, h', tk, m', nx, e, F', fun p hp => N' p ((List.mem_append.mp hp).elim (ho p) (hn p)), fun p hp hq => ?_, ha, hm⟩
      have h1 : p.1 ∈ nx.map (·.1) := List.mem_map.mpr ⟨p, hp, rfl⟩
      rw [ha, ← hadr] at h1
      obtain ⟨q, hq1, hq2⟩ := List.mem_map.mp h1
      exact hoff q hq1 (by rw [hq2]; exact hq)
    cases f with
    | ret v => exact .ret p
    | brk => exact .brk p
    | next => exact .next (fin p)
    | cont => exact .cont (fin p)
  · rintro h' tk m' news' F' N' _ ⟨_, hJ⟩
    exact done m' news' h' tk hJ F' N'
/-- a loop over two lists of the ledger, side by side -/
theorem zip_lists {elts : List Expr} {k : Nat} {pos : Pos} {l1 l2 : Addr} {xs ys : List Value} {n1 n2 : Nat} {m₀ : Str → Option Value} {all news : List (Addr × Obj)} (J : Nat → (Str → Option Value) → List (Addr × Obj) → Prop)
    (hh : A.handled = none) (F : Fr h₀ env.locals s.heap m₀) (N : News h₀ env.locals s.heap all) (hm1 : (l1, listOf xs.toArray n1) ∈ all) (hm2 : (l2, listOf ys.toArray n2) ∈ all) (hsub : ∀ p ∈ news, p ∈ all) (ho1 : ∀ p ∈ news, p.1 ≠ l1) (ho2 : ∀ p ∈ news, p.1 ≠ l2) (hj : J 0 m₀ news)
    (turn : ∀ i x y T m₁ news₁ h tk own, xs[i]? = some x → ys[i]? = some y → news₁.map (·.1) = news.map (·.1) → OwnOff own (news.map (·.1)) → J i m₁ news₁ → IsTup h T #[x, y] → Fr h₀ env.locals h m₁ → News h₀ env.locals h (news₁ ++ own) →
      wpAny (model prog w) A (assign (.Tuple elts k pos) env (.ref T)) (fun _ s₃ => wpAny (model prog w) A (execs body env) (InvPostN h₀ env.locals (J (i + 1)) own (news.map (·.1)) { s with heap := h, toks := tk } Q) E s₃) E { s with heap := h, toks := tk })
    (done : ∀ m₁ news₁ h tk, J (min xs.length ys.length) m₁ news₁ → Fr h₀ env.locals h m₁ → News h₀ env.locals h news₁ → Q .next { s with heap := h, toks := tk }) :
    wpAny (model prog w) A (call (.type "zip") [.ref l1, .ref l2]) (fun xv s₁ => wpAny (model prog w) A (pyIter xv) (fun it s₂ => TurnsAt prog w A h₀ env (.Tuple elts k pos) body Q E it s₂) E s₁) E s := by
  have hax1 := N _ hm1
  have hax2 := N _ hm2
  have hl1 : s.heap.IsList l1 xs.toArray := ⟨_, hax1.1, rfl, n1, rfl⟩
  have hl2 : s.heap.IsList l2 ys.toArray := ⟨_, hax2.1, rfl, n2, rfl⟩
  have hlt1 : l1 < s.heap.objs.size := Heap.lt_size hax1.1
  have hlt2 : l2 < s.heap.objs.size := Heap.lt_size hax2.1
  have hLs : env.locals < s.heap.objs.size := F.ns.lt
  have D : ZipApart (s.heap.objs.size + 4) (s.heap.objs.size + 2) (s.heap.objs.size + 3) s.heap.objs.size (s.heap.objs.size + 1) l1 l2 := ktu_apart _ _ _ hlt1 hlt2
  refine call_zip_2 hl1 hl2 fun h' hz hTI hTO hi1 hi2 hsz hk => ?_
  refine wpAny_pyIter_zip hz ?_
  refine turns_core (news := news) J (KTurns.ofWalksU (WalksT.zip2 hh _ _ _ _ _ _ _ D xs.toArray ys.toArray).toU) ?_ ?_ ?_ ?_ (F.keeps hk) (News.grown (fun p hp => N p (hsub p hp)) hk) hj ?_ ?_
  · intro hI'
    have hb' : env.locals = s.heap.objs.size + 4 ∨ env.locals = s.heap.objs.size + 2 ∨ env.locals = s.heap.objs.size + 3 ∨ env.locals = s.heap.objs.size ∨ env.locals = s.heap.objs.size + 1 ∨ env.locals = l1 ∨ env.locals = l2 := by simpa using hI'
    have n1 := hax1.2.1
    have n2 := hax2.2.1
    rcases hb' with e | e | e | e | e | e | e
    · exact ktu_ne 4 hLs e
    · exact ktu_ne 2 hLs e
    · exact ktu_ne 3 hLs e
    · exact Nat.ne_of_lt hLs e
    · exact ktu_ne 1 hLs e
    · exact n1 e.symm
    · exact n2 e.symm
  · intro b hb
    have hb' : b = s.heap.objs.size + 4 ∨ b = s.heap.objs.size + 3 ∨ b = s.heap.objs.size ∨ b = s.heap.objs.size + 1 := by simpa using hb
    rcases hb' with rfl | rfl | rfl | rfl
    · exact ktu_new F (Nat.le_add_right _ _)
    · exact ktu_new F (Nat.le_add_right _ _)
    · exact ktu_new F (Nat.le_refl _)
    · exact ktu_new F (Nat.le_add_right _ _)
  · intro p hp hI'
    have hb' : p.1 = s.heap.objs.size + 4 ∨ p.1 = s.heap.objs.size + 2 ∨ p.1 = s.heap.objs.size + 3 ∨ p.1 = s.heap.objs.size ∨ p.1 = s.heap.objs.size + 1 ∨ p.1 = l1 ∨ p.1 = l2 := by simpa using hI'
    have hlp := Heap.lt_size (N p (hsub p hp)).1
    rcases hb' with e | e | e | e | e | e | e
    · exact ktu_ne 4 hlp e
    · exact ktu_ne 2 hlp e
    · exact ktu_ne 3 hlp e
    · exact Nat.ne_of_lt hlp e
    · exact ktu_ne 1 hlp e
    · exact ho1 p hp e
    · exact ho2 p hp e
  · exact ⟨hz, hTI, ⟨_, _, hTO⟩, hi1, hi2, hl1.at fun o e => hk l1 o e, hl2.at fun o e => hk l2 o e⟩
  · rintro i v m₁ news₁ h tk own hi ⟨T, vals, rfl, ⟨x, y, hx, hy, rfl⟩, hT⟩ hadr hoff hJ F₁ N₁
    exact turn i x y T m₁ news₁ h tk own (by simpa using hx) (by simpa using hy) hadr hoff hJ hT F₁ N₁
  · intro m₁ news₁ h tk hJ F₁ N₁
    have e : min xs.toArray.size ys.toArray.size = min xs.length ys.length := by simp
    rw [e] at hJ
    exact done m₁ news₁ h tk hJ F₁ N₁
end
end Mine
end
-- part S5
section
open PySem PySem.W PyProof.Rows
namespace Mine
/-- the parts of a zip lie apart, and off what its two sources stand on -/
structure ZApart (z TI TO i1 i2 : Addr) (f1 f2 : List Addr) : Prop where
  TIz : TI ≠ z
  TOz : TO ≠ z
  i1z : i1 ≠ z
  i2z : i2 ≠ z
  TITO : TI ≠ TO
  TIi1 : TI ≠ i1
  TIi2 : TI ≠ i2
  TOi1 : TO ≠ i1
  TOi2 : TO ≠ i2
  z1 : ∀ b ∈ f1, b ≠ z
  z2 : ∀ b ∈ f2, b ≠ z
  T1 : ∀ b ∈ f1, b ≠ TO
  T2 : ∀ b ∈ f2, b ≠ TO
  i2f : ∀ b ∈ f1, b ≠ i2
  i1f : ∀ b ∈ f2, b ≠ i1
section
variable {prog : Program} {w : World} {A : Around} {E : Value → Shared → Prop} {s : Shared} {z TI TO i1 i2 : Addr} {f1 f2 : List Addr} {n1 n2 k : Nat} {P1 P2 : Nat → Value → Prop} {St1 St2 : Nat → Heap → Prop}
theorem zipD_item {a b : Value} {Q : Value → Shared → Prop} (D1 : Draws prog w A i1 f1 n1 P1 St1) (D2 : Draws prog w A i2 f2 n2 P2 St2) (Z : ZApart z TI TO i1 i2 f1 f2)
    (hz : IsZip s.heap z TI TO .none) (hTI : IsPair s.heap TI (.ref i1) (.ref i2)) (hTO : IsPair s.heap TO a b) (s1 : St1 k s.heap) (s2 : St2 k s.heap) (h1 : k < n1) (h2 : k < n2)
    (hQ : ∀ x y h' tk, P1 k x → P2 k y → IsZip h' z TI TO (rawInt s.heap.objs.size) → IsPair h' TO x y → St1 (k + 1) h' → St2 (k + 1) h' → IsPair h' s.heap.objs.size x y →
      (∀ c o, c ≠ z → c ≠ TO → c ≠ i1 → c ≠ i2 → s.heap.get? c = some o → h'.get? c = some o) → Q (.ref s.heap.objs.size) { s with heap := h', toks := tk }) :
    wpAny (model prog w) A (Builtin.«zip.__next__» ⟨[.ref z], []⟩) (fun fin s' => ∃ v, fin = .done (.ret v) ∧ Q v s') E s := by
  show wpAny _ _ (field (.ref z) 2 >>= _) _ _ _
  refine wpAny_bind (wpAny_field hz rfl (x := .bool false) rfl ?_)
  show wpAny _ _ (field (.ref z) 3 >>= _) _ _ _
  refine wpAny_bind (wpAny_field hz rfl (x := .ref TI) rfl ?_)
  refine wpAny_bind (wpAny_seqItems hTI rfl ?_)
  show wpAny _ _ (Builtin.SmallTypes.ownedTupleIsFree (.ref z) >>= _) _ _ _
  refine wpAny_bind ?_
  unfold Builtin.SmallTypes.ownedTupleIsFree
  refine wpAny_bind (wpAny_field hz rfl (x := .none) rfl (wpAny_pure ?_))
  simp only [if_true]
  refine wpAny_bind (wpAny_rule ?_)
  refine wpAny_bind (wpAny_field hz rfl (x := .ref TO) rfl ?_)
  refine wpAny_bind (wpAny_setField_rec hz (by simp) fun g₁ hz₁ e₁ => ?_)
  replace hz₁ : IsZip g₁ z TI TO .ellipsis := hz₁
  refine wpAny_bind ?_
  simp only [List.zipIdx_cons, List.zipIdx_nil, List.forIn_cons, List.forIn_nil]
  -- the first source
  refine wpAny_bind (wpAny_bind (wpAny_onRaise ?_))
  show wpAny _ _ (Builtin.SmallTypes.nextOf (.ref i1) >>= _) _ _ _
  refine wpAny_bind (D1.item k _ _ _ h1 (D1.frame _ _ _ s1 fun b hb o q => e₁.extBut _ _ (Z.z1 b hb) q) fun x g₂ tk₂ px t1 e₂ => wpAny_pure ?_)
  have hTO₂ : IsPair g₂ TO a b := e₂.extBut _ _ Z.TOi1 (e₁.extBut _ _ Z.TOz hTO)
  refine wpAny_bind (wpAny_seqItems hTO₂ rfl ?_)
  refine wpAny_bind (wpAny_updateSeq_pair hTO₂ fun g₃ hTO₃ e₃ => ?_)
  replace hTO₃ : IsPair g₃ TO x b := hTO₃
  refine wpAny_bind (wpAny_letGo (wpAny_pure ?_))
  -- the second
  refine wpAny_bind (wpAny_bind (wpAny_onRaise ?_))
  show wpAny _ _ (Builtin.SmallTypes.nextOf (.ref i2) >>= _) _ _ _
  refine wpAny_bind (D2.item k _ _ _ h2 (D2.frame _ _ _ s2 fun b hb o q => e₃.extBut _ _ (Z.T2 b hb) (e₂.extBut _ _ (Z.i1f b hb) (e₁.extBut _ _ (Z.z2 b hb) q))) fun y g₄ tk₄ py t2 e₄ => wpAny_pure ?_)
  have hTO₄ : IsPair g₄ TO x b := e₄.extBut _ _ Z.TOi2 hTO₃
  refine wpAny_bind (wpAny_seqItems hTO₄ rfl ?_)
  refine wpAny_bind (wpAny_updateSeq_pair hTO₄ fun g₅ hTO₅ e₅ => ?_)
  replace hTO₅ : IsPair g₅ TO x y := hTO₅
  refine wpAny_bind (wpAny_letGo (wpAny_pure (wpAny_pure ?_)))
  -- the pair is handed out
  refine wpAny_bind (wpAny_seqItems hTO₅ rfl ?_)
  refine wpAny_bind (wpAny_newTuple ?_)
  have hsz : g₅.objs.size = s.heap.objs.size := by rw [e₅.1, e₄.1, e₃.1, e₂.1, e₁.1]
  have hz₅ : IsZip g₅ z TI TO .ellipsis := e₅.extBut _ _ Z.TOz.symm (e₄.extBut _ _ Z.i2z.symm (e₃.extBut _ _ Z.TOz.symm (e₂.extBut _ _ Z.i1z.symm hz₁)))
  have keep : ∀ c o, c ≠ z → c ≠ TO → c ≠ i1 → c ≠ i2 → s.heap.get? c = some o → g₅.get? c = some o := fun c o c1 c2 c3 c4 q =>
    e₅.extBut _ _ c2 (e₄.extBut _ _ c4 (e₃.extBut _ _ c2 (e₂.extBut _ _ c3 (e₁.extBut _ _ c1 q))))
  have t1' : St1 (k + 1) g₅ := D1.frame _ _ _ t1 fun b hb o q => e₅.extBut _ _ (Z.T1 b hb) (e₄.extBut _ _ (Z.i2f b hb) (e₃.extBut _ _ (Z.T1 b hb) q))
  have t2' : St2 (k + 1) g₅ := D2.frame _ _ _ t2 fun b hb o q => e₅.extBut _ _ (Z.T2 b hb) q
  show wpAny _ _ (Builtin.SmallTypes.ownedTupleHandOut (.ref z) (.ref g₅.objs.size) >>= _) _ _ _
  refine wpAny_bind ?_
  unfold Builtin.SmallTypes.ownedTupleHandOut
  have hz₆ : IsZip (g₅.push { cls := .type "tuple", data := .seq #[x, y] }) z TI TO .ellipsis := Heap.get?_push_of_some _ hz₅
  refine wpAny_bind (wpAny_setField_rec hz₆ (by simp) fun g₇ hz₇ e₇ => ?_)
  replace hz₇ : IsZip g₇ z TI TO (rawInt g₅.objs.size) := hz₇
  refine wpAny_setField_rec hz₇ (by simp) fun g₈ hz₈ e₈ => ?_
  replace hz₈ : IsZip g₈ z TI TO (rawInt g₅.objs.size) := hz₈
  have up : ∀ c o, c ≠ z → g₅.get? c = some o → g₈.get? c = some o := fun c o c1 q => e₈.extBut _ _ c1 (e₇.extBut _ _ c1 (Heap.get?_push_of_some _ q))
  have hT₈ : IsPair g₈ g₅.objs.size x y := e₈.extBut _ _ (Nat.ne_of_gt (Heap.lt_size hz₅)) (e₇.extBut _ _ (Nat.ne_of_gt (Heap.lt_size hz₅)) (Heap.get?_push_size _ rfl))
  rw [hsz] at hz₈ hT₈
  refine wpAny_pure ⟨_, rfl, ?_⟩
  show Q (.ref g₅.objs.size) _
  rw [hsz]
  exact hQ x y g₈ tk₄ px py hz₈ (up _ _ Z.TOz hTO₅) (D1.frame _ _ _ t1' fun b hb o q => up _ _ (Z.z1 b hb) q) (D2.frame _ _ _ t2' fun b hb o q => up _ _ (Z.z2 b hb) q) hT₈ fun c o c1 c2 c3 c4 q => up c o c1 (keep c o c1 c2 c3 c4 q)
theorem zipD_end {a b : Value} {Q : Fin → Shared → Prop} (D1 : Draws prog w A i1 f1 n1 P1 St1) (D2 : Draws prog w A i2 f2 n2 P2 St2) (Z : ZApart z TI TO i1 i2 f1 f2)
    (hz : IsZip s.heap z TI TO .none) (hTI : IsPair s.heap TI (.ref i1) (.ref i2)) (hTO : IsPair s.heap TO a b) (s1 : St1 k s.heap) (s2 : St2 k s.heap) (hk : k = n1 ∨ k < n1 ∧ k = n2)
    (hE : ∀ h' tk e, (∀ c o, c ≠ z → c ≠ TO → c ≠ i1 → c ≠ i2 → s.heap.get? c = some o → h'.get? c = some o) → (∃ o, h'.get? e = some o ∧ o.cls = .type "StopIteration") → E (.ref e) { s with heap := h', toks := tk }) :
    wpAny (model prog w) A (Builtin.«zip.__next__» ⟨[.ref z], []⟩) Q E s := by
  show wpAny _ _ (field (.ref z) 2 >>= _) _ _ _
  refine wpAny_bind (wpAny_field hz rfl (x := .bool false) rfl ?_)
  show wpAny _ _ (field (.ref z) 3 >>= _) _ _ _
  refine wpAny_bind (wpAny_field hz rfl (x := .ref TI) rfl ?_)
  refine wpAny_bind (wpAny_seqItems hTI rfl ?_)
  show wpAny _ _ (Builtin.SmallTypes.ownedTupleIsFree (.ref z) >>= _) _ _ _
  refine wpAny_bind ?_
  unfold Builtin.SmallTypes.ownedTupleIsFree
  refine wpAny_bind (wpAny_field hz rfl (x := .none) rfl (wpAny_pure ?_))
  simp only [if_true]
  refine wpAny_bind (wpAny_rule ?_)
  refine wpAny_bind (wpAny_field hz rfl (x := .ref TO) rfl ?_)
  refine wpAny_bind (wpAny_setField_rec hz (by simp) fun g₁ hz₁ e₁ => ?_)
  replace hz₁ : IsZip g₁ z TI TO .ellipsis := hz₁
  refine wpAny_bind ?_
  simp only [List.zipIdx_cons, List.zipIdx_nil, List.forIn_cons, List.forIn_nil]
  refine wpAny_bind (wpAny_bind (wpAny_onRaise ?_))
  show wpAny _ _ (Builtin.SmallTypes.nextOf (.ref i1) >>= _) _ _ _
  have f1' : St1 k g₁ := D1.frame _ _ _ s1 fun b hb o q => e₁.extBut _ _ (Z.z1 b hb) q
  by_cases q1 : k = n1
  · subst q1
    refine wpAny_bind (D1.done _ _ _ f1' fun g₂ e e₂ he => ?_)
    obtain ⟨oe, hoe, hce⟩ := he
    have hz₂ : IsZip g₂ z TI TO .ellipsis := e₂ _ _ Z.i1z.symm hz₁
    have hez : e ≠ z := fun x => by subst x; rw [hz₂] at hoe; cases hoe; simp at hce
    refine wpAny_setField_rec hz₂ (by simp) fun g₃ _ e₃ => hE g₃ s.toks e (fun c o c1 _ c3 _ q => e₃.extBut _ _ c1 (e₂ _ _ c3 (e₁.extBut _ _ c1 q))) ⟨oe, e₃.extBut _ _ hez hoe, hce⟩
  · have q2 : k < n1 ∧ k = n2 := hk.resolve_left q1
    obtain ⟨q2, rfl⟩ := q2
    refine wpAny_bind (D1.item k _ _ _ q2 f1' fun x g₂ tk₂ px t1 e₂ => wpAny_pure ?_)
    have hTO₂ : IsPair g₂ TO a b := e₂.extBut _ _ Z.TOi1 (e₁.extBut _ _ Z.TOz hTO)
    refine wpAny_bind (wpAny_seqItems hTO₂ rfl ?_)
    refine wpAny_bind (wpAny_updateSeq_pair hTO₂ fun g₃ hTO₃ e₃ => ?_)
    refine wpAny_bind (wpAny_letGo (wpAny_pure ?_))
    refine wpAny_bind (wpAny_bind (wpAny_onRaise ?_))
    show wpAny _ _ (Builtin.SmallTypes.nextOf (.ref i2) >>= _) _ _ _
    refine wpAny_bind (D2.done _ _ _ (D2.frame _ _ _ s2 fun b hb o q => e₃.extBut _ _ (Z.T2 b hb) (e₂.extBut _ _ (Z.i1f b hb) (e₁.extBut _ _ (Z.z2 b hb) q))) fun g₄ e e₄ he => ?_)
    obtain ⟨oe, hoe, hce⟩ := he
    have hz₄ : IsZip g₄ z TI TO .ellipsis := e₄ _ _ Z.i2z.symm (e₃.extBut _ _ Z.TOz.symm (e₂.extBut _ _ Z.i1z.symm hz₁))
    have hez : e ≠ z := fun x => by subst x; rw [hz₄] at hoe; cases hoe; simp at hce
    refine wpAny_setField_rec hz₄ (by simp) fun g₅ _ e₅ => hE g₅ tk₂ e (fun c o c1 c2 c3 c4 q => e₅.extBut _ _ c1 (e₄ _ _ c4 (e₃.extBut _ _ c2 (e₂.extBut _ _ c3 (e₁.extBut _ _ c1 q))))) ⟨oe, e₅.extBut _ _ hez hoe, hce⟩
/-- a loop's turns over a zip of any two sources -/
theorem zipD_turns {elts : List Expr} {j : Nat} {pos : Pos} (hh : A.handled = none) (D1 : ∀ B : Around, B.handled = none → Draws prog w B i1 f1 n1 P1 St1) (D2 : ∀ B : Around, B.handled = none → Draws prog w B i2 f2 n2 P2 St2) (Z : ZApart z TI TO i1 i2 f1 f2) :
    KTurns prog w A (.Tuple elts j pos) z (z :: TI :: TO :: i1 :: i2 :: (f1 ++ f2)) [z, TO, i1, i2] (min n1 n2)
      (fun i v h => ∃ T x y, v = .ref T ∧ P1 i x ∧ P2 i y ∧ h.IsTuple T #[x, y])
      (fun i v h => ∃ T x y, v = .ref T ∧ P1 i x ∧ P2 i y ∧ h.IsTuple T #[x, y] ∧ T ≠ z ∧ IsZip h z TI TO (rawInt T) ∧ IsPair h TI (.ref i1) (.ref i2) ∧ (∃ a b, IsPair h TO a b) ∧ St1 (i + 1) h ∧ St2 (i + 1) h)
      (fun i h => IsZip h z TI TO .none ∧ IsPair h TI (.ref i1) (.ref i2) ∧ (∃ a b, IsPair h TO a b) ∧ St1 i h ∧ St2 i h) where
  sub := fun b hb => by simp at hb ⊢; rcases hb with h | h | h | h <;> simp [h]
  frame := by
    rintro i h h' ⟨hz, hTI, ⟨a, b, hTO⟩, h1, h2⟩ hk
    exact ⟨hk z (by simp) _ hz, hk TI (by simp) _ hTI, ⟨a, b, hk TO (by simp) _ hTO⟩, (D1 A hh).frame _ _ _ h1 fun c hc o q => hk c (by simp [hc]) o q, (D2 A hh).frame _ _ _ h2 fun c hc o q => hk c (by simp [hc]) o q⟩
  item := by
    rintro i s Q E hi ⟨hz, hTI, ⟨a, b, hTO⟩, h1, h2⟩ hQ
    have hT : s.TypeIs (.ref z) "zip" := ⟨_, hz, rfl⟩
    unfold pyNext
    refine wpAny_bind (wpAny_attempt (wpAny_callSpecial?_slot (name := Str.ofString "__next__") hT F.slot_zip_next
      (wpAny_call_entry F.slot_zip_next hT F.entry_zip_next
        (zipD_item (D1 _ hh) (D2 _ hh) Z hz hTI hTO h1 h2 (Nat.lt_of_lt_of_le hi (Nat.min_le_left ..)) (Nat.lt_of_lt_of_le hi (Nat.min_le_right ..)) fun x y h' tk px py a1 a2 a3 a4 a5 a6 => ?_) (F.args_zip_next_1 _))))
    refine wpAny_pure (hQ (.ref s.heap.objs.size) h' tk ⟨_, x, y, rfl, px, py, ⟨_, a5, rfl, _, rfl⟩, Nat.ne_of_gt (Heap.lt_size hz), a1, a6 _ _ Z.TIz Z.TITO Z.TIi1 Z.TIi2 hTI, ⟨_, _, a2⟩, a3, a4⟩ fun c o hc q =>
      a6 c o (fun x => hc (by simp [x])) (fun x => hc (by simp [x])) (fun x => hc (by simp [x])) (fun x => hc (by simp [x])) q)
  go := by
    rintro i v s Q E ⟨T, x, y, rfl, px, py, hT, hTz, hz, hTI, ⟨a, b, hTO⟩, h1, h2⟩ hQ
    refine wpAny_letOwnedTupleGo_zip hz fun h' hz' e' => hQ h' ⟨T, x, y, rfl, px, py, hT.at fun o q => e'.extBut _ _ hTz q⟩ ⟨hz', e'.extBut _ _ Z.TIz hTI, ⟨a, b, e'.extBut _ _ Z.TOz hTO⟩, (D1 A hh).frame _ _ _ h1 fun c hc o q => e'.extBut _ _ (Z.z1 c hc) q, (D2 A hh).frame _ _ _ h2 fun c hc o q => e'.extBut _ _ (Z.z2 c hc) q⟩ fun c o hc q => e'.extBut _ _ (fun x => hc (by simp [x])) q
  done := by
    rintro s Q E ⟨hz, hTI, ⟨a, b, hTO⟩, h1, h2⟩ hQ
    have hT : s.TypeIs (.ref z) "zip" := ⟨_, hz, rfl⟩
    unfold pyNext
    refine wpAny_bind (wpAny_attempt (wpAny_callSpecial?_slot (name := Str.ofString "__next__") hT F.slot_zip_next
      (wpAny_call_entry F.slot_zip_next hT F.entry_zip_next (zipD_end (D1 _ hh) (D2 _ hh) Z hz hTI hTO h1 h2 (by omega) fun h' tk e hk he => ?_) (F.args_zip_next_1 _))))
    obtain ⟨o, ho, hc⟩ := he
    refine wpAny_bind (wpAny_isInstance (T := "StopIteration") (b := true) ⟨o, ho, hc⟩ isSubtype_stop ?_)
    exact wpAny_pure (hQ _ _ fun c o hc q => hk c o (fun x => hc (by simp [x])) (fun x => hc (by simp [x])) (fun x => hc (by simp [x])) (fun x => hc (by simp [x])) q)
end
end Mine
end
-- part S6
section
open PySem PySem.W PyProof.Rows
namespace Mine
abbrev zt1 (h : Heap) (x : Str) (t : Tok) : Heap := h.push { cls := .type "str_ascii_iterator", data := .fields #[.str x t, .int 0 0] }
abbrev zt2 (h : Heap) (x : Str) (t : Tok) (l : Addr) : Heap := (zt1 h x t).push { cls := .type "list_iterator", data := .fields #[.ref l, .int 0 0] }
abbrev zt3 (h : Heap) (x : Str) (t : Tok) (l : Addr) : Heap := (zt2 h x t l).push { cls := .type "tuple", data := .seq #[.ref h.objs.size, .ref (zt1 h x t).objs.size] }
abbrev zt4 (h : Heap) (x : Str) (t : Tok) (l : Addr) : Heap := (zt3 h x t l).push { cls := .type "tuple", data := .seq #[.none, .none] }
abbrev zt5 (h : Heap) (x : Str) (t : Tok) (l : Addr) : Heap := (zt4 h x t l).push { cls := .type "zip", data := .fields #[.none, .bool false, .bool false, .ref (zt2 h x t l).objs.size, .ref (zt3 h x t l).objs.size] }
set_option maxHeartbeats 8000000 in
theorem meets_zip_text (x : Str) (t : Tok) (l : Addr) (ys : Array Value) (ha : x.cps.all (· < 128) = true) :
    Meets (Builtin.«zip.__new__» ⟨[.type "zip", .str x t, .ref l], []⟩) (fun _ R s => s.heap.IsList l ys ∧ R (.ok (.ret (.ref (zt4 s.heap x t l).objs.size))) { s with heap := zt5 s.heap x t l }) :=
  .of_wp fun prog w A R s h => by
    obtain ⟨hp, g, d, tk, os⟩ := s
    obtain ⟨hl, h⟩ := h
    have hsub := sub_zip
    have hL : Heap.IsList (Shared.heap ⟨hp.push { cls := .type "str_ascii_iterator", data := .fields #[.str x t, .int 0 0] }, g, d, tk, os⟩) l ys := Heap.IsList.push hl _
    wp_walk using wpAny_pyIter_ascii ha, wpAny_pyIter_list hL
    exact ⟨_, rfl, h⟩
section
variable {prog : Program} {w : World} {A : Around} {E : Value → Shared → Prop} {s : Shared} {env : Env} {h₀ : Heap} {target : Expr} {body : List Stmt} {Q : Flow → Shared → Prop}
theorem call_zip_text {x : Str} {t : Tok} {l : Addr} {ys : Array Value} {Q : Value → Shared → Prop} (ha : x.cps.all (· < 128) = true) (hl : s.heap.IsList l ys)
    (h : ∀ h', IsZip h' (s.heap.objs.size + 4) (s.heap.objs.size + 2) (s.heap.objs.size + 3) .none → IsPair h' (s.heap.objs.size + 2) (.ref s.heap.objs.size) (.ref (s.heap.objs.size + 1)) →
      IsPair h' (s.heap.objs.size + 3) .none .none → h'.IsStrIter s.heap.objs.size "str_ascii_iterator" x t 0 → h'.IsListIter (s.heap.objs.size + 1) l 0 →
      (∀ c o, s.heap.get? c = some o → h'.get? c = some o) → Q (.ref (s.heap.objs.size + 4)) { s with heap := h' }) :
    wpAny (model prog w) A (call (.type "zip") [.str x t, .ref l]) Q E s := by
  refine callType_new F.called_zip (by decide) (F.typeCall_zip_2 _ _) (F.newCall_zip_2 _ _) (fun obj => F.args_object_init_3 obj _ _) F.entry_zip_new
    (meets_zip_text x t l ys ha) ⟨hl, ?_⟩
  have z1 : (zt1 s.heap x t).objs.size = s.heap.objs.size + 1 := Heap.size_push ..
  have z2 : (zt2 s.heap x t l).objs.size = s.heap.objs.size + 2 := by rw [zt2, Heap.size_push, z1]
  have z3 : (zt3 s.heap x t l).objs.size = s.heap.objs.size + 3 := by rw [zt3, Heap.size_push, z2]
  have z4 : (zt4 s.heap x t l).objs.size = s.heap.objs.size + 4 := by rw [zt4, Heap.size_push, z3]
  have g5 : (zt5 s.heap x t l).get? (zt4 s.heap x t l).objs.size = some _ := Heap.get?_push_size _ rfl
  have g4 : (zt5 s.heap x t l).get? (zt3 s.heap x t l).objs.size = some _ := Heap.get?_push_of_some _ (Heap.get?_push_size _ rfl)
  have g3 : (zt5 s.heap x t l).get? (zt2 s.heap x t l).objs.size = some _ := Heap.get?_push_of_some _ (Heap.get?_push_of_some _ (Heap.get?_push_size _ rfl))
  have g2 : (zt5 s.heap x t l).get? (zt1 s.heap x t).objs.size = some _ := Heap.get?_push_of_some _ (Heap.get?_push_of_some _ (Heap.get?_push_of_some _ (Heap.get?_push_size _ rfl)))
  have g1 : (zt5 s.heap x t l).get? s.heap.objs.size = some _ := Heap.get?_push_of_some _ (Heap.get?_push_of_some _ (Heap.get?_push_of_some _ (Heap.get?_push_of_some _ (Heap.get?_push_size _ rfl))))
  show _ ∧ _
  rw [z2, z3, z4] at g5
  rw [z1, z2] at g3
  rw [z3] at g4
  rw [z1] at g2
  rw [z4]
  exact ⟨⟨_, g5, rfl⟩, h _ g5 g3 g4 ⟨_, g1, rfl, rfl⟩ ⟨_, g2, rfl, rfl⟩ fun c o q =>
    Heap.get?_push_of_some _ (Heap.get?_push_of_some _ (Heap.get?_push_of_some _ (Heap.get?_push_of_some _ (Heap.get?_push_of_some _ q))))⟩
/-- a loop over a text's signs and a list of the ledger, side by side -/
theorem zip_text {elts : List Expr} {k : Nat} {pos : Pos} {x : Str} {t : Tok} {l : Addr} {ys : List Value} {n : Nat} {m₀ : Str → Option Value} {all news : List (Addr × Obj)} (J : Nat → (Str → Option Value) → List (Addr × Obj) → Prop)
    (ha : x.cps.all (· < 128) = true) (hh : A.handled = none) (F : Fr h₀ env.locals s.heap m₀) (N : News h₀ env.locals s.heap all) (hm : (l, listOf ys.toArray n) ∈ all) (hsub : ∀ p ∈ news, p ∈ all) (ho : ∀ p ∈ news, p.1 ≠ l) (hj : J 0 m₀ news)
    (turn : ∀ i c u y T m₁ news₁ h tk own, x.cps.toList[i]? = some c → ys[i]? = some y → news₁.map (·.1) = news.map (·.1) → OwnOff own (news.map (·.1)) → J i m₁ news₁ → IsTup h T #[.str ⟨#[c]⟩ u, y] → Fr h₀ env.locals h m₁ → News h₀ env.locals h (news₁ ++ own) →
      wpAny (model prog w) A (assign (.Tuple elts k pos) env (.ref T)) (fun _ s₃ => wpAny (model prog w) A (execs body env) (InvPostN h₀ env.locals (J (i + 1)) own (news.map (·.1)) { s with heap := h, toks := tk } Q) E s₃) E { s with heap := h, toks := tk })
    (done : ∀ m₁ news₁ h tk, J (min x.cps.toList.length ys.length) m₁ news₁ → Fr h₀ env.locals h m₁ → News h₀ env.locals h news₁ → Q .next { s with heap := h, toks := tk }) :
    wpAny (model prog w) A (call (.type "zip") [.str x t, .ref l]) (fun xv s₁ => wpAny (model prog w) A (pyIter xv) (fun it s₂ => TurnsAt prog w A h₀ env (.Tuple elts k pos) body Q E it s₂) E s₁) E s := by
  have hax := N _ hm
  have hl : s.heap.IsList l ys.toArray := ⟨_, hax.1, rfl, n, rfl⟩
  have hlt : l < s.heap.objs.size := Heap.lt_size hax.1
  have hLs : env.locals < s.heap.objs.size := F.ns.lt
  refine call_zip_text ha hl fun h' hz hTI hTO hi1 hi2 hk => ?_
  refine wpAny_pyIter_zip hz ?_
  have Z : ZApart (s.heap.objs.size + 4) (s.heap.objs.size + 2) (s.heap.objs.size + 3) s.heap.objs.size (s.heap.objs.size + 1) [s.heap.objs.size] [s.heap.objs.size + 1, l] := by
    generalize s.heap.objs.size = S at *
    replace hlt := ltN hlt
    have e0 : ∀ i j : Nat, i ≠ j → (S + i : Addr) ≠ S + j := fun i j hij e => hij (Nat.add_left_cancel e)
    have e1 : ∀ i : Nat, i ≠ 0 → (S + i : Addr) ≠ S := fun i hi => e0 i 0 hi
    have e2 : ∀ i : Nat, l ≠ (S + i : Addr) := fun i => Nat.ne_of_lt (Nat.lt_of_lt_of_le hlt (Nat.le_add_right _ _))
    refine ⟨e0 _ _ (by decide), e0 _ _ (by decide), (e1 _ (by decide)).symm, e0 _ _ (by decide), e0 _ _ (by decide), e1 _ (by decide), e0 _ _ (by decide), e1 _ (by decide), e0 _ _ (by decide), ?_, ?_, ?_, ?_, ?_, ?_⟩
    all_goals (intro b hb; simp only [List.mem_cons, List.not_mem_nil, or_false] at hb)
    · rw [hb]; exact (e1 _ (by decide)).symm
    · rcases hb with h | h
      · rw [h]; exact e0 _ _ (by decide)
      · rw [h]; exact e2 _
    · rw [hb]; exact (e1 _ (by decide)).symm
    · rcases hb with h | h
      · rw [h]; exact e0 _ _ (by decide)
      · rw [h]; exact e2 _
    · rw [hb]; exact (e1 _ (by decide)).symm
    · rcases hb with h | h
      · rw [h]; exact e1 _ (by decide)
      · rw [h]; exact Nat.ne_of_lt hlt
  refine turns_core (news := news) J (zipD_turns hh (fun B hB => Draws.strAscii hB _ x t) (fun B hB => Draws.list hB _ l (fun e => absurd (e ▸ hlt) (Nat.not_lt.mpr (Nat.le_succ _))) ys.toArray) Z) ?_ ?_ ?_ ?_ (F.keeps hk) (News.grown (fun p hp => N p (hsub p hp)) hk) hj ?_ ?_
  · intro hI'
    have hb' : env.locals = s.heap.objs.size + 4 ∨ env.locals = s.heap.objs.size + 2 ∨ env.locals = s.heap.objs.size + 3 ∨ env.locals = s.heap.objs.size ∨ env.locals = s.heap.objs.size + 1 ∨ env.locals = l := by
      simp only [List.mem_cons, List.mem_append, List.not_mem_nil, or_false] at hI'
      rcases hI' with h | h | h | h | h | h | h | h <;> simp [h]
    rcases hb' with e | e | e | e | e | e
    · exact ktu_ne 4 hLs e
    · exact ktu_ne 2 hLs e
    · exact ktu_ne 3 hLs e
    · exact Nat.ne_of_lt hLs e
    · exact ktu_ne 1 hLs e
    · exact hax.2.1 e.symm
  · intro b hb
    have hb' : b = s.heap.objs.size + 4 ∨ b = s.heap.objs.size + 3 ∨ b = s.heap.objs.size ∨ b = s.heap.objs.size + 1 := by simpa using hb
    rcases hb' with rfl | rfl | rfl | rfl
    · exact ktu_new F (Nat.le_add_right _ _)
    · exact ktu_new F (Nat.le_add_right _ _)
    · exact ktu_new F (Nat.le_refl _)
    · exact ktu_new F (Nat.le_add_right _ _)
  · intro p hp hI'
    have hb' : p.1 = s.heap.objs.size + 4 ∨ p.1 = s.heap.objs.size + 2 ∨ p.1 = s.heap.objs.size + 3 ∨ p.1 = s.heap.objs.size ∨ p.1 = s.heap.objs.size + 1 ∨ p.1 = l := by
      simp only [List.mem_cons, List.mem_append, List.not_mem_nil, or_false] at hI'
      rcases hI' with h | h | h | h | h | h | h | h <;> simp [h]
    have hlp := Heap.lt_size (N p (hsub p hp)).1
    rcases hb' with e | e | e | e | e | e
    · exact ktu_ne 4 hlp e
    · exact ktu_ne 2 hlp e
    · exact ktu_ne 3 hlp e
    · exact Nat.ne_of_lt hlp e
    · exact ktu_ne 1 hlp e
    · exact ho p hp e
  · exact ⟨hz, hTI, ⟨_, _, hTO⟩, hi1, hi2, hl.at fun o e => hk l o e⟩
  · rintro i v m₁ news₁ h tk own hi ⟨T, xv, y, rfl, ⟨c, u, hc, rfl⟩, hy, hT⟩ hadr hoff hJ F₁ N₁
    exact turn i c u y T m₁ news₁ h tk own (by simpa using hc) (by simpa using hy) hadr hoff hJ hT F₁ N₁
  · intro m₁ news₁ h tk hJ F₁ N₁
    have e : min x.cps.size ys.toArray.size = min x.cps.toList.length ys.length := by simp
    rw [e] at hJ
    exact done m₁ news₁ h tk hJ F₁ N₁
end
end Mine
end
-- part S7
section
open PySem PySem.W PyProof.Rows
namespace Mine
section
variable {prog : Program} {w : World} {A : Around} {E : Value → Shared → Prop} {s : Shared} {env : Env} {h₀ : Heap} {target : Expr} {body : List Stmt} {Q : Flow → Shared → Prop}
/-- a loop over a list of the ledger, any target -/
theorem list_turns {l : Addr} {ys : List Value} {n : Nat} {m₀ : Str → Option Value} {all news : List (Addr × Obj)} (J : Nat → (Str → Option Value) → List (Addr × Obj) → Prop)
    (hh : A.handled = none) (F : Fr h₀ env.locals s.heap m₀) (N : News h₀ env.locals s.heap all) (hm : (l, listOf ys.toArray n) ∈ all) (hsub : ∀ p ∈ news, p ∈ all) (ho : ∀ p ∈ news, p.1 ≠ l) (hj : J 0 m₀ news)
    (turn : ∀ i y m₁ news₁ h tk own, ys[i]? = some y → news₁.map (·.1) = news.map (·.1) → OwnOff own (news.map (·.1)) → J i m₁ news₁ → Fr h₀ env.locals h m₁ → News h₀ env.locals h (news₁ ++ own) →
      wpAny (model prog w) A (assign target env y) (fun _ s₃ => wpAny (model prog w) A (execs body env) (InvPostN h₀ env.locals (J (i + 1)) own (news.map (·.1)) { s with heap := h, toks := tk } Q) E s₃) E { s with heap := h, toks := tk })
    (done : ∀ m₁ news₁ h tk, J ys.length m₁ news₁ → Fr h₀ env.locals h m₁ → News h₀ env.locals h news₁ → Q .next { s with heap := h, toks := tk }) :
    wpAny (model prog w) A (pyIter (.ref l)) (fun it s₂ => TurnsAt prog w A h₀ env target body Q E it s₂) E s := by
  have hax := N _ hm
  have hl : s.heap.IsList l ys.toArray := ⟨_, hax.1, rfl, n, rfl⟩
  have hlt : l < s.heap.objs.size := Heap.lt_size hax.1
  have hne : l ≠ s.heap.objs.size := Nat.ne_of_lt hlt
  refine wpAny_pyIter_list hl ?_
  refine turns_core (news := news) J (KTurns.ofWalks (Walks.list hh s.heap.objs.size l hne ys.toArray) fun i v s Q E st q => letGo_listiter st.1 q) ?_ ?_ ?_ ?_ (F.push _) (fun p hp => ⟨Heap.get?_push_of_some _ (N p (hsub p hp)).1, (N p (hsub p hp)).2⟩) hj ?_ ?_
  · intro hI
    rcases List.mem_cons.mp hI with e | hI
    · exact absurd F.ns.lt (e ▸ Nat.lt_irrefl _)
    · exact hax.2.1 (List.mem_singleton.mp hI).symm
  · intro b hb
    rw [List.mem_singleton.mp hb]
    exact next_is_new F
  · intro p hp hI
    rcases List.mem_cons.mp hI with e | hI
    · exact absurd (Heap.lt_size (N p (hsub p hp)).1) (e ▸ Nat.lt_irrefl _)
    · exact ho p hp (List.mem_singleton.mp hI)
  · exact ⟨⟨_, Heap.get?_push_size _ rfl, rfl, rfl⟩, hl.at fun o e => Heap.get?_push_of_some _ e⟩
  · rintro i v m₁ news₁ h tk own hi hv hadr hoff hJ F₁ N₁
    exact turn i v m₁ news₁ h tk own (by simpa using hv) hadr hoff hJ F₁ N₁
  · intro m₁ news₁ h tk hJ F₁ N₁
    have e : ys.toArray.size = ys.length := by simp
    rw [e] at hJ
    exact done m₁ news₁ h tk hJ F₁ N₁
end
end Mine
end
-- part H0
section
open PySem PySem.W PyProof.Rows
namespace Mine
set_option maxRecDepth 100000 in
set_option maxHeartbeats 8000000 in
open_top hd for PySem.Challenge.rw_pg0132_01
end Mine
end
-- part A1
section
open PySem PySem.W PyProof.Rows
namespace Mine
/-- what a call of a def of the text does: from the ledger led to a ledger and a value of Post -/
def Fn (w : World) (mean : ExcName → Option Value) (mg mb : Str → Option Value) (f : Addr) (args : List Value) (dN uN : Nat) (led : List (Addr × Obj)) (Post : Value → List (Addr × Obj) → Prop) : Prop :=
  ∀ (dp un : Nat) (gd : Option (List Code)) (cn : Str) (cs : Scope) (a : Addr) (ccd : Value) (cl : List (Str × Addr)) (outer : List Env) (A₀ : Around) (base h₀ : Heap) (L : Addr) (m : Str → Option Value) (s : Shared) (Q E : Value → Shared → Prop),
    Below A₀ base outer h₀ → Fr h₀ L s.heap m → (hd.heap_39 w.params).In h₀ → News h₀ L s.heap led →
    Top hd.view_39 (looseW hd.view_39 [Str.ofString "insort_right", Str.ofString "bisect_right", Str.ofString "bisect_left"]) mean mg mb h₀ → cs.kind = .function →
    dp + dN < recursionLimit → un + uN < cLine →
    (∀ r led' h' tk', Post r led' → Fr h₀ L h' m → News h₀ L h' led' → Q r { s with heap := h', toks := tk' }) →
    wpAny (model PySem.Challenge.rw_pg0132_01.row.prog w) (ktrTop dp un gd cn cs L a ccd cl outer) (call (.ref f) args) Q E s
/-- the same of a def's body, from its frame's names on; nothing is raised -/
def Body (w : World) (mean : ExcName → Option Value) (mg mb : Str → Option Value) (q : Str) (sc : Scope) (f : Addr) (cdv : Value) (body : List Stmt) (m₀ : Str → Option Value) (dN uN : Nat) (led : List (Addr × Obj)) (Post : Value → List (Addr × Obj) → Prop) : Prop :=
  ∀ (dp un : Nat) (gd : Option (List Code)) (outer : List Env) (A₀ : Around) (base g : Heap) (L : Addr) (s : Shared) (Q : Flow → Shared → Prop),
    Below A₀ base outer g → Fr g L s.heap m₀ → (hd.heap_39 w.params).In g → News g L s.heap led →
    Top hd.view_39 (looseW hd.view_39 [Str.ofString "insort_right", Str.ofString "bisect_right", Str.ofString "bisect_left"]) mean mg mb g →
    dp + dN < recursionLimit → un + uN < cLine →
    (∀ v m' led' h' tk', Post v led' → Fr g L h' m' → News g L h' led' → Q (.ret v) { s with heap := h', toks := tk' }) →
    (∀ m' led' h' tk', Post .none led' → Fr g L h' m' → News g L h' led' → Q .next { s with heap := h', toks := tk' }) →
    wpAny (model PySem.Challenge.rw_pg0132_01.row.prog w) (ktrTop dp un gd q sc L f cdv [] outer) (execs body (envOf q sc L f cdv)) Q (fun _ _ => False) s
theorem Fn.enter {w : World} {mean : ExcName → Option Value} {mg mb : Str → Option Value} {f : Addr} {args : List Value} {dN uN : Nat} {led : List (Addr × Obj)} {Post : Value → List (Addr × Obj) → Prop}
    {name qual : Str} {params : Arguments} {body : List Stmt} {scope : Scope} {dV kV doc pm cdv ct oc : Value} {an od : Option Addr} {osl : Array (Option Value)} (binds : List (Str × Value))
    (ho : (hd.heap_39 w.params).lookup f = some ⟨oc, od, .func (fnOf name qual params body scope dV kV doc pm an cdv ct), osl⟩)
    (hcd : codeIn (hd.heap_39 w.params) cdv qual = true)
    (hbind : ∀ s : Shared, (hd.heap_39 w.params).In s.heap → BindsTo s (fnOf name qual params body scope dV kV doc pm an cdv ct) ⟨args, []⟩ binds)
    (hloc : (binds.all fun x => decide (scope.names.lookup x.1 = some .local)) = true)
    (hco : scope.isCoroutine = false) (hgen : scope.isGenerator = false) (hk : scope.kind = .function) (hcell : ∀ x ∈ scope.names, x.2 ≠ .cell)
    (h : Body w mean mg mb qual scope f cdv body (fun y => binds.reverse.lookup y) dN uN led Post) :
    Fn w mean mg mb f args (dN + 1) (uN + 3) led Post := by
  intro dp un gd cn cs a ccd cl outer A₀ base h₀ L m s Q E B F X N T hkc hd hu hret
  refine wpAny_call ?_
  refine code_def (env := envX cn cs L a ccd cl) B F X N T rfl rfl hkc ho hcd (by show dp < _; omega) (hbind s (X.keeps F.keep)) (locs hloc) ?_ hco hgen hk hcell
  intro g L' h₁ FG F' N' B' X' T'
  refine wpAny_mono (h (dp + 1) (un + 3) gd (envX cn cs L a ccd cl :: outer) (ktrTop dp un gd cn cs L a ccd cl outer) base g L' _ _ B' F' X' N' T' (by omega) (by omega) ?_ ?_) (fun _ _ x => x) (fun _ _ x => x.elim)
  · intro v m' led' h' tk' hp Fx Nx
    exact leaveK_ Fx Nx fun Fy Ny => hret _ _ _ _ hp Fy Ny
  · intro m' led' h' tk' hp Fx Nx
    exact leaveK_ Fx Nx fun Fy Ny => hret _ _ _ _ hp Fy Ny
theorem Fn.use {w : World} {mean : ExcName → Option Value} {mg mb : Str → Option Value} {f : Addr} {args : List Value} {dN uN : Nat} {led : List (Addr × Obj)} {Post : Value → List (Addr × Obj) → Prop}
    {dp un : Nat} {gd : Option (List Code)} {cn : Str} {cs : Scope} {a : Addr} {ccd : Value} {cl : List (Str × Addr)} {outer : List Env} {A₀ : Around} {base h₀ : Heap} {L : Addr} {m : Str → Option Value} {s : Shared} {Q E : Value → Shared → Prop}
    (h : Fn w mean mg mb f args dN uN led Post) (B : Below A₀ base outer h₀) (F : Fr h₀ L s.heap m) (X : (hd.heap_39 w.params).In h₀) (N : News h₀ L s.heap led)
    (T : Top hd.view_39 (looseW hd.view_39 [Str.ofString "insort_right", Str.ofString "bisect_right", Str.ofString "bisect_left"]) mean mg mb h₀) (hk : cs.kind = .function)
    (hd : dp + dN < recursionLimit) (hu : un + uN < cLine)
    (ret : ∀ r led' h' tk', Post r led' → Fr h₀ L h' m → News h₀ L h' led' → Q r { s with heap := h', toks := tk' }) :
    wpAny (model PySem.Challenge.rw_pg0132_01.row.prog w) (ktrTop dp un gd cn cs L a ccd cl outer) (call (.ref f) args) Q E s := h _ _ _ _ _ _ _ _ _ _ _ _ _ _ _ _ _ B F X N T hk hd hu ret
theorem Fn.mono {w : World} {mean : ExcName → Option Value} {mg mb : Str → Option Value} {f : Addr} {args : List Value} {dN uN : Nat} {led : List (Addr × Obj)} {Post Post' : Value → List (Addr × Obj) → Prop}
    (h : Fn w mean mg mb f args dN uN led Post) (hp : ∀ v l, Post v l → Post' v l) : Fn w mean mg mb f args dN uN led Post' := by
  intro dp un gd cn cs a ccd cl outer A₀ base h₀ L m s Q E B F X N T hk hd hu ret
  exact h _ _ _ _ _ _ _ _ _ _ _ _ _ _ _ _ _ B F X N T hk hd hu fun r l h' tk' p => ret r l h' tk' (hp r l p)
theorem ws2 {h₀ h' : Heap} {L : Addr} {s : Shared} {J : Nat → (Str → Option Value) → List (Addr × Obj) → Prop} {Q : Flow → Shared → Prop} {n tk : Nat} {m₂ : Str → Option Value} {news₂ : List (Addr × Obj)} (n' : Nat)
    (F : Fr h₀ L h' m₂) (N : News h₀ L h' news₂) (hJ : J n' m₂ news₂) (hn : n' < n) : WhileStep2 h₀ L s J Q n .next { s with heap := h', toks := tk } :=
  ⟨h', tk, m₂, news₂, n', rfl, F, N, hn, hJ⟩
/-- a stop for the walk -/
def Stop (P : Prop) : Prop := P
theorem Stop.out {P : Prop} (h : Stop P) : P := h
theorem Stop.mk {P : Prop} (h : P) : Stop P := h
end Mine
end
-- part A2
section
open PySem PySem.W PyProof.Rows
namespace Mine
theorem filled (P : Params) : (hd.heap_39 P = hd.heap_39 P ∧ PySem.Challenge.rw_pg0132_01.foot = PySem.Challenge.rw_pg0132_01.foot) ∨ True := by
  k_fill
  exact Or.inr trivial
local macro_rules | `(tactic| is_list) => `(tactic| exact News.isList (by k_asm) (by with_reducible assumption))
local macro_rules | `(tactic| walk_at "exec While Compare") => `(tactic| (k_here; refine Stop.out ?_))
local macro_rules | `(tactic| walk_at "eval Name") => `(tactic| (k_here; k_dflt (refine' ld ?k1 ?k2 ?_; (case k1 => k_asm); (case k2 => first | exact rfl | assumption); k_whole)))
set_option maxRecDepth 100000 in
set_option maxHeartbeats 8000000 in
theorem fn_bl {w : World} {mean : ExcName → Option Value} {mg mb : Str → Option Value} {led : List (Addr × Obj)} {r : Addr} {n : Nat} {vs : List Value} {ns : List Int} {x : Int} {t : Tok}
    (hr : (r, listOf vs.toArray n) ∈ led) (hi : IntsAre vs ns) (hlen : ns.length ≤ 8) (hup : Up ns) :
    Fn w mean mg mb 41 [.ref r, .int x t] 1 3 led (fun v led' => led' = led ∧ ∃ t, v = .int (bl ns x) t) := by
  refine' Fn.enter [(Str.ofString "a", .ref r), (Str.ofString "x", .int x t), (Str.ofString "lo", .int 0 216), (Str.ofString "hi", .none), (Str.ofString "key", .none)] ?ho ?hc ?hb ?h1 ?h2 ?h3 ?h4 ?h5 ?_
  case ho => k_is
  case hc => k_is
  case hb => exact fun s X => kp_binds X (fun _ => by with_unfolding_all rfl)
  case h1 => exact rfl
  case h2 => exact rfl
  case h3 => exact rfl
  case h4 => exact rfl
  case h5 => decide
  intro dp un gd outer A₀ base g L s Q B F X N T hd hu hret hnext
  try dsimp only
  k_steps
  refine Stop.mk ?_
  rename Fr _ _ _ _ => F1
  rename News _ _ _ _ => N1
  refine While_inv2 (fun k m nx => ∃ lo hi t1 t2, nx = led ∧ m (Str.ofString "a") = some (.ref r) ∧ m (Str.ofString "x") = some (.int x t) ∧ m (Str.ofString "lo") = some (.int lo t1) ∧ m (Str.ofString "hi") = some (.int hi t2) ∧ BlInv ns x lo hi ∧ k = (hi - lo).toNat) F1 N1 ⟨0, _, _, _, rfl, rfl, rfl, rfl, rfl, BlInv.start, rfl⟩ ?_
  clear F1 N1
  rintro k m₁ nx h₁ tk₁ F1 N1 ⟨lo, hi, t1, t2, rfl, ma, mx, mlo, mhi, J, rfl⟩
  have j0 := J.lo0
  have j1 := J.hi1
  have j2 := fdiv2 (lo + hi)
  k_steps
  · refine' ws2 (hi - (Int.fdiv (lo + hi) 2 + 1)).toNat ?f ?n ?j ?l
    case f => assumption
    case n => assumption
    case j => exact ⟨_, _, _, _, rfl, ma, mx, rfl, mhi, J.up hup (by assumption) (by assumption), rfl⟩
    case l => omega
  · refine' ws2 (Int.fdiv (lo + hi) 2 - lo).toNat ?f ?n ?j ?l
    case f => assumption
    case n => assumption
    case j => exact ⟨_, _, _, _, rfl, ma, mx, mlo, rfl, J.down hup (by assumption) (by assumption), rfl⟩
    case l => omega
  · exact hret _ _ _ _ _ ⟨rfl, _, by rw [J.done (by assumption)]⟩ (by assumption) (by assumption)
end Mine
end
-- part A3
section
open PySem PySem.W PyProof.Rows
namespace Mine
theorem filled3 (P : Params) : (hd.heap_39 P = hd.heap_39 P ∧ PySem.Challenge.rw_pg0132_01.foot = PySem.Challenge.rw_pg0132_01.foot) ∨ True := by
  k_fill
  exact Or.inr trivial
local macro_rules | `(tactic| is_list) => `(tactic| exact News.isList (by k_asm) (by with_reducible assumption))
local macro_rules | `(tactic| walk_at "exec While Compare") => `(tactic| (k_here; refine Stop.out ?_))
local macro_rules | `(tactic| walk_at "eval Name") => `(tactic| (k_here; k_dflt (refine' ld ?k1 ?k2 ?_; (case k1 => k_asm); (case k2 => first | exact rfl | assumption); k_whole)))
set_option maxRecDepth 100000 in
set_option maxHeartbeats 8000000 in
theorem fn_br {w : World} {mean : ExcName → Option Value} {mg mb : Str → Option Value} {led : List (Addr × Obj)} {r : Addr} {n : Nat} {vs : List Value} {ns : List Int} {x : Int} {t : Tok} {args : List Value}
    (hr : (r, listOf vs.toArray n) ∈ led) (hi : IntsAre vs ns) (hlen : ns.length ≤ 8) (hup : Up ns) (hargs : ∃ t0, (args = [.ref r, .int x t] ∧ t0 = 202) ∨ args = [.ref r, .int x t, .int 0 t0, .none]) :
    Fn w mean mg mb 32 args 1 3 led (fun v led' => led' = led ∧ ∃ t, v = .int (br ns x) t) := by
  obtain ⟨t0, hargs⟩ := hargs
  refine' Fn.enter [(Str.ofString "a", .ref r), (Str.ofString "x", .int x t), (Str.ofString "lo", .int 0 t0), (Str.ofString "hi", .none), (Str.ofString "key", .none)] ?ho ?hc ?hb ?h1 ?h2 ?h3 ?h4 ?h5 ?_
  case ho => k_is
  case hc => k_is
  case hb => rcases hargs with ⟨rfl, rfl⟩ | rfl <;> exact fun s X => kp_binds X (fun _ => by with_unfolding_all rfl)
  case h1 => exact rfl
  case h2 => exact rfl
  case h3 => exact rfl
  case h4 => exact rfl
  case h5 => decide
  clear hargs
  intro dp un gd outer A₀ base g L s Q B F X N T hd hu hret hnext
  k_steps
  refine Stop.mk ?_
  rename Fr _ _ _ _ => F1
  rename News _ _ _ _ => N1
  refine While_inv2 (fun k m nx => ∃ lo hi t1 t2, nx = led ∧ m (Str.ofString "a") = some (.ref r) ∧ m (Str.ofString "x") = some (.int x t) ∧ m (Str.ofString "lo") = some (.int lo t1) ∧ m (Str.ofString "hi") = some (.int hi t2) ∧ BrInv ns x lo hi ∧ k = (hi - lo).toNat) F1 N1 ⟨0, _, _, _, rfl, rfl, rfl, rfl, rfl, BrInv.start, rfl⟩ ?_
  clear F1 N1
  rintro k m₁ nx h₁ tk₁ F1 N1 ⟨lo, hi, t1, t2, rfl, ma, mx, mlo, mhi, J, rfl⟩
  have j0 := J.lo0
  have j1 := J.hi1
  have j2 := fdiv2 (lo + hi)
  k_steps
  · refine' ws2 (Int.fdiv (lo + hi) 2 - lo).toNat ?f ?n ?j ?l
    case f => assumption
    case n => assumption
    case j => exact ⟨_, _, _, _, rfl, ma, mx, mlo, rfl, J.down hup (by assumption) (by assumption), rfl⟩
    case l => omega
  · refine' ws2 (hi - (Int.fdiv (lo + hi) 2 + 1)).toNat ?f ?n ?j ?l
    case f => assumption
    case n => assumption
    case j => exact ⟨_, _, _, _, rfl, ma, mx, rfl, mhi, J.up hup (by assumption) (by assumption), rfl⟩
    case l => omega
  · exact hret _ _ _ _ _ ⟨rfl, _, by rw [J.done (by assumption)]⟩ (by assumption) (by assumption)
end Mine
end
-- part A4
section
open PySem PySem.W PyProof.Rows
namespace Mine
section
variable {prog : Program} {w : World} {A : Around} {E : Value → Shared → Prop} {s : Shared} {h₀ : Heap} {L r : Addr} {m : Str → Option Value} {rest : List (Addr × Obj)} {vs : List Value} {ns : List Int} {n : Nat} {Q : Value → Shared → Prop}
theorem ins_row {k x : Int} {u t : Tok} (F : Fr h₀ L s.heap m) (N : News h₀ L s.heap ((r, listOf vs.toArray n) :: rest)) (hne : ∀ p ∈ rest, p.1 ≠ r) (hi : IntsAre vs ns) (hlen : ns.length ≤ 8) (h0 : 0 ≤ k) (h1 : k ≤ ns.length)
    (h : ∀ h' vs', IntsAre vs' (insL ns k.toNat x) → Fr h₀ L h' m → News h₀ L h' ((r, listOf vs'.toArray (n + 1)) :: rest) → Q .none { s with heap := h' }) :
    wpAny (model prog w) A (call (.builtin "list.insert") [.ref r, .int k u, .int x t]) Q E s := by
  have hl := hi.length
  refine kl_insert (its := vs.toArray) (n := n) F N ?_ rfl (Upd.head hne) ?_ ?_
  · unfold Builtin.List.listFitsIndex; simp only [Bool.and_eq_true, decide_eq_true_eq]; omega
  · show vs.length ≤ _; rw [sizeLine_eq]; omega
  · intro h' F' N'
    refine h h' (kl_ins vs k (.int x t)) ?_ F' N'
    unfold kl_ins insL
    rw [if_neg (by omega), show min k.toNat vs.length = k.toNat by omega]
    exact (hi.take _).append (.cons x t (hi.drop _))
theorem pop_row {k : Int} {u : Tok} (F : Fr h₀ L s.heap m) (N : News h₀ L s.heap ((r, listOf vs.toArray n) :: rest)) (hne : ∀ p ∈ rest, p.1 ≠ r) (hi : IntsAre vs ns) (hlen : ns.length ≤ 8) (h0 : 0 ≤ k) (h1 : k < ns.length)
    (h : ∀ h' v vs', IntsAre vs' (ns.take k.toNat ++ ns.drop (k.toNat + 1)) → Fr h₀ L h' m → News h₀ L h' ((r, listOf vs'.toArray (n + 1)) :: rest) → Q v { s with heap := h' }) :
    wpAny (model prog w) A (call (.builtin "list.pop") [.ref r, .int k u]) Q E s := by
  have hl := hi.length
  have hlt : k.toNat < vs.length := by omega
  have cut : ∀ (l : List Value) (j : Nat) (hj : j < l.length), kl_cut l j = some (l.take j, l[j], l.drop (j + 1)) := by
    intro l
    induction l with
    | nil => intro j hj; simp at hj
    | cons a r ih =>
      intro j hj
      cases j with
      | zero => rfl
      | succ j => unfold kl_cut; rw [ih j (by simpa using hj)]; rfl
  refine kl_popAt (its := vs.toArray) (n := n) (k := k.toNat) F N ?_ ?_ (cut vs k.toNat hlt) (Upd.head hne) ?_ ?_
  · unfold Builtin.List.listFitsIndex; simp only [Bool.and_eq_true, decide_eq_true_eq]; omega
  · have q1 : ¬ k < 0 := by omega
    have q2 : k < (vs.length : Int) := by omega
    simp [seqIndex?, q1, q2, h0]
  · show vs.length ≤ _; rw [sizeLine_eq]; omega
  · intro h' F' N'
    exact h h' _ _ ((hi.take _).append (hi.drop _)) F' N'
end
theorem filled4 (P : Params) : (hd.heap_39 P = hd.heap_39 P ∧ PySem.Challenge.rw_pg0132_01.foot = PySem.Challenge.rw_pg0132_01.foot) ∨ True := by
  k_fill
  exact Or.inr trivial
local macro_rules | `(tactic| is_list) => `(tactic| exact News.isList (by k_asm) (by with_reducible assumption))
local macro_rules | `(tactic| walk_at "exec While Compare") => `(tactic| (k_here; refine Stop.out ?_))
local macro_rules | `(tactic| walk_at "eval Name") => `(tactic| (k_here; k_dflt (refine' ld ?k1 ?k2 ?_; (case k1 => k_asm); (case k2 => first | exact rfl | assumption); k_whole)))
local macro_rules | `(tactic| walk_at "call ref") => `(tactic| (k_here; refine Stop.out ?_))
local macro_rules | `(tactic| walk_at "call builtin:list.insert") => `(tactic| (k_here; refine Stop.out ?_))
local macro_rules | `(tactic| walk_at "call builtin:list.pop") => `(tactic| (k_here; refine Stop.out ?_))
set_option maxRecDepth 100000 in
set_option maxHeartbeats 8000000 in
theorem fn_ins {w : World} {mean : ExcName → Option Value} {mg mb : Str → Option Value} {rest : List (Addr × Obj)} {r : Addr} {n : Nat} {vs : List Value} {ns : List Int} {x : Int} {t : Tok}
    (hne : ∀ p ∈ rest, p.1 ≠ r) (hi : IntsAre vs ns) (hlen : ns.length ≤ 8) (hup : Up ns) :
    Fn w mean mg mb 23 [.ref r, .int x t] 2 6 ((r, listOf vs.toArray n) :: rest) (fun v led' => v = .none ∧ ∃ vs' n', led' = (r, listOf vs'.toArray n') :: rest ∧ IntsAre vs' (insL ns (br ns x).toNat x)) := by
  refine' Fn.enter [(Str.ofString "a", .ref r), (Str.ofString "x", .int x t), (Str.ofString "lo", .int 0 189), (Str.ofString "hi", .none), (Str.ofString "key", .none)] ?ho ?hc ?hb ?h1 ?h2 ?h3 ?h4 ?h5 ?_
  case ho => k_is
  case hc => k_is
  case hb => exact fun s X => kp_binds X (fun _ => by with_unfolding_all rfl)
  case h1 => exact rfl
  case h2 => exact rfl
  case h3 => exact rfl
  case h4 => exact rfl
  case h5 => decide
  intro dp un gd outer A₀ base g L s Q B F X N T hd hu hret hnext
  k_steps
  refine Stop.mk (Fn.use (fn_br (.head _) hi hlen hup ⟨_, .inr rfl⟩) B (by assumption) X (by assumption) T rfl (by omega) (by omega) ?_)
  rintro _ _ h1 tk1 ⟨rfl, t1, rfl⟩ F1 N1
  k_steps
  refine Stop.mk (ins_row (by assumption) (by assumption) hne hi hlen (br_nonneg _ _) (br_le _ _) ?_)
  intro h2 vs' hi' F2 N2
  k_steps
  exact hnext _ _ _ _ ⟨rfl, _, _, rfl, hi'⟩ F2 N2
set_option maxRecDepth 100000 in
set_option maxHeartbeats 8000000 in
theorem fn_has {w : World} {mean : ExcName → Option Value} {mg mb : Str → Option Value} {led : List (Addr × Obj)} {r : Addr} {n : Nat} {vs : List Value} {ns : List Int} {x : Int} {t : Tok}
    (hr : (r, listOf vs.toArray n) ∈ led) (hi : IntsAre vs ns) (hlen : ns.length ≤ 8) (hup : Up ns) :
    Fn w mean mg mb 53 [.ref r, .int x t] 2 6 led (fun v led' => led' = led ∧ v = .bool (decide (x ∈ ns))) := by
  refine' Fn.enter [(Str.ofString "row", .ref r), (Str.ofString "place", .int x t)] ?ho ?hc ?hb ?h1 ?h2 ?h3 ?h4 ?h5 ?_
  case ho => k_is
  case hc => k_is
  case hb => exact fun s X => kp_binds X (fun _ => by with_unfolding_all rfl)
  case h1 => exact rfl
  case h2 => exact rfl
  case h3 => exact rfl
  case h4 => exact rfl
  case h5 => decide
  intro dp un gd outer A₀ base g L s Q B F X N T hd hu hret hnext
  k_steps
  refine Stop.mk (Fn.use (fn_bl hr hi hlen hup) B (by assumption) X (by assumption) T rfl (by omega) (by omega) ?_)
  rintro _ _ h1 tk1 ⟨rfl, t1, rfl⟩ F1 N1
  k_steps
  refine Stop.mk (Fn.use (fn_br hr hi hlen hup ⟨_, .inl ⟨rfl, rfl⟩⟩) B (by assumption) X (by assumption) T rfl (by omega) (by omega) ?_)
  rintro _ _ h2 tk2 ⟨rfl, t2, rfl⟩ F2 N2
  k_steps
  exact hret _ _ _ _ _ ⟨rfl, by congr 1; exact decide_eq_decide.mpr (has_iff hup x)⟩ F2 N2
set_option maxRecDepth 100000 in
set_option maxHeartbeats 8000000 in
theorem fn_turn {w : World} {mean : ExcName → Option Value} {mg mb : Str → Option Value} {rest : List (Addr × Obj)} {r : Addr} {n : Nat} {vs : List Value} {ns : List Int} {x : Int} {t : Tok}
    (hne : ∀ p ∈ rest, p.1 ≠ r) (hi : IntsAre vs ns) (hlen : ns.length ≤ 8) (hup : Up ns) :
    Fn w mean mg mb 60 [.ref r, .int x t] 3 9 ((r, listOf vs.toArray n) :: rest) (fun v led' => v = .none ∧ ∃ vs' n', led' = (r, listOf vs'.toArray n') :: rest ∧ IntsAre vs' (turnL ns x)) := by
  refine' Fn.enter [(Str.ofString "row", .ref r), (Str.ofString "place", .int x t)] ?ho ?hc ?hb ?h1 ?h2 ?h3 ?h4 ?h5 ?_
  case ho => k_is
  case hc => k_is
  case hb => exact fun s X => kp_binds X (fun _ => by with_unfolding_all rfl)
  case h1 => exact rfl
  case h2 => exact rfl
  case h3 => exact rfl
  case h4 => exact rfl
  case h5 => decide
  intro dp un gd outer A₀ base g L s Q B F X N T hd hu hret hnext
  k_steps
  refine Stop.mk (Fn.use (fn_has (.head _) hi hlen hup) B (by assumption) X (by assumption) T rfl (by omega) (by omega) ?_)
  rintro _ _ h1 tk1 ⟨rfl, rfl⟩ F1 N1
  k_steps
  · refine Stop.mk (Fn.use (fn_bl (.head _) hi hlen hup) B (by assumption) X (by assumption) T rfl (by omega) (by omega) ?_)
    rintro _ _ h2 tk2 ⟨rfl, t2, rfl⟩ F2 N2
    have hm : x ∈ ns := by assumption
    have q1 := (has_iff hup x).mpr hm
    have q2 := br_le ns x
    k_steps
    refine Stop.mk (pop_row F2 N2 hne hi hlen (bl_nonneg _ _) (by omega) ?_)
    intro h3 v vs' hi' F3 N3
    k_steps
    refine hnext _ _ _ _ ⟨rfl, _, _, rfl, ?_⟩ F3 N3
    unfold turnL
    rw [if_pos q1]
    exact hi'
  · refine Stop.mk (Fn.use (fn_ins hne hi hlen hup) B (by assumption) X (by assumption) T rfl (by omega) (by omega) ?_)
    rintro _ _ h2 tk2 ⟨rfl, vs', n', rfl, hi'⟩ F2 N2
    have hm : x ∉ ns := by assumption
    k_steps
    refine hnext _ _ _ _ ⟨rfl, _, _, rfl, ?_⟩ F2 N2
    unfold turnL
    rw [if_neg (fun q => hm ((has_iff hup x).mp q))]
    exact hi'
end Mine
end
-- part A5
section
open PySem PySem.W PyProof.Rows
namespace Mine
/-- the ledger's four rows, then the rest -/
def RowsAt (q c m b : Addr) (rest led : List (Addr × Obj)) (r : R4) : Prop :=
  ∃ vq vc vm vb nq nc nm nb, led = (q, listOf (List.toArray vq) nq) :: (c, listOf (List.toArray vc) nc) :: (m, listOf (List.toArray vm) nm) :: (b, listOf (List.toArray vb) nb) :: rest ∧
    IntsAre vq r.q ∧ IntsAre vc r.c ∧ IntsAre vm r.m ∧ IntsAre vb r.b
structure Apart4 (q c m b : Addr) (rest : List (Addr × Obj)) : Prop where
  qc : q ≠ c
  qm : q ≠ m
  qb : q ≠ b
  cm : c ≠ m
  cb : c ≠ b
  mb : m ≠ b
  rq : ∀ p ∈ rest, p.1 ≠ q
  rc : ∀ p ∈ rest, p.1 ≠ c
  rm : ∀ p ∈ rest, p.1 ≠ m
  rb : ∀ p ∈ rest, p.1 ≠ b
theorem turn_use {w : World} {mean : ExcName → Option Value} {mg mb : Str → Option Value} {r : Addr} {n : Nat} {vs : List Value} {ns : List Int} {x : Int} {t : Tok}
    {dp un : Nat} {gd : Option (List Code)} {cn : Str} {cs : Scope} {a : Addr} {ccd : Value} {cl : List (Str × Addr)} {outer : List Env} {A₀ : Around} {base h₀ : Heap} {L : Addr} {m : Str → Option Value} {s : Shared} {Q E : Value → Shared → Prop}
    (pre post : List (Addr × Obj)) (h1 : ∀ p ∈ pre, p.1 ≠ r) (h2 : ∀ p ∈ post, p.1 ≠ r) (hi : IntsAre vs ns) (ok : Row8 ns)
    (B : Below A₀ base outer h₀) (F : Fr h₀ L s.heap m) (X : (hd.heap_39 w.params).In h₀) (N : News h₀ L s.heap (pre ++ (r, listOf vs.toArray n) :: post))
    (T : Top hd.view_39 (looseW hd.view_39 [Str.ofString "insort_right", Str.ofString "bisect_right", Str.ofString "bisect_left"]) mean mg mb h₀) (hk : cs.kind = .function)
    (hd : dp + 3 < recursionLimit) (hu : un + 9 < cLine)
    (ret : ∀ vs' n' h' tk', IntsAre vs' (turnL ns x) → Fr h₀ L h' m → News h₀ L h' (pre ++ (r, listOf vs'.toArray n') :: post) → Q .none { s with heap := h', toks := tk' }) :
    wpAny (model PySem.Challenge.rw_pg0132_01.row.prog w) (ktrTop dp un gd cn cs L a ccd cl outer) (call (.ref 60) [.ref r, .int x t]) Q E s := by
  refine Fn.use (fn_turn (n := n) (rest := pre ++ post) (fun p hp => (List.mem_append.mp hp).elim (h1 p) (h2 p)) hi ok.len ok.up) B F X (fun p hp => N p ?_) T hk hd hu ?_
  · rcases List.mem_cons.mp hp with e | hp
    · exact List.mem_append.mpr (.inr (e ▸ .head _))
    · rcases List.mem_append.mp hp with q | q
      · exact List.mem_append.mpr (.inl q)
      · exact List.mem_append.mpr (.inr (.tail _ q))
  · rintro _ _ h' tk' ⟨rfl, vs', n', rfl, hi'⟩ F' N'
    refine ret vs' n' h' tk' hi' F' fun p hp => N' p ?_
    rcases List.mem_append.mp hp with q | q
    · exact .tail _ (List.mem_append.mpr (.inl q))
    · rcases List.mem_cons.mp q with e | q
      · exact e ▸ .head _
      · exact .tail _ (List.mem_append.mpr (.inr q))
theorem eq_comma (k : Nat) : ((⟨#[k]⟩ : Str) == Str.ofString ",") = decide (k = 44) := one_eq k 44
theorem eq_quote (k : Nat) : ((⟨#[k]⟩ : Str) == Str.ofString "\"") = decide (k = 34) := one_eq k 34
theorem eq_bar (k : Nat) : ((⟨#[k]⟩ : Str) == Str.ofString "\\") = decide (k = 92) := one_eq k 92
theorem is_comma {k : Nat} (h : ((⟨#[k]⟩ : Str) == Str.ofString ",") = true) : k = 44 := by rw [eq_comma] at h; exact of_decide_eq_true h
theorem is_quote {k : Nat} (h : ((⟨#[k]⟩ : Str) == Str.ofString "\"") = true) : k = 34 := by rw [eq_quote] at h; exact of_decide_eq_true h
theorem is_bar {k : Nat} (h : ((⟨#[k]⟩ : Str) == Str.ofString "\\") = true) : k = 92 := by rw [eq_bar] at h; exact of_decide_eq_true h
theorem no_comma {k : Nat} (h : ((⟨#[k]⟩ : Str) == Str.ofString ",") = false) : k ≠ 44 := by rw [eq_comma] at h; exact of_decide_eq_false h
theorem no_quote {k : Nat} (h : ((⟨#[k]⟩ : Str) == Str.ofString "\"") = false) : k ≠ 34 := by rw [eq_quote] at h; exact of_decide_eq_false h
theorem no_bar {k : Nat} (h : ((⟨#[k]⟩ : Str) == Str.ofString "\\") = false) : k ≠ 92 := by rw [eq_bar] at h; exact of_decide_eq_false h
theorem slice_is_bar {x : Str} {i : Nat} (h : (Txt.slice x (some (i : Int)) (some ((i : Int) + 1)) == Str.ofString "\\") = true) : at0 x i = 92 := by
  have e := slice_one x i 92 (by decide)
  exact of_decide_eq_true (e.symm.trans h)
theorem slice_no_bar {x : Str} {i : Nat} (h : (Txt.slice x (some (i : Int)) (some ((i : Int) + 1)) == Str.ofString "\\") = false) : at0 x i ≠ 92 := by
  have e := slice_one x i 92 (by decide)
  exact of_decide_eq_false (e.symm.trans h)
theorem slice_is_quote {x : Str} {i : Nat} (h : (Txt.slice x (some (i : Int)) (some ((i : Int) + 1)) == Str.ofString "\"") = true) : at0 x i = 34 := by
  have e := slice_one x i 34 (by decide)
  exact of_decide_eq_true (e.symm.trans h)
theorem slice_no_quote {x : Str} {i : Nat} (h : (Txt.slice x (some (i : Int)) (some ((i : Int) + 1)) == Str.ofString "\"") = false) : at0 x i ≠ 34 := by
  have e := slice_one x i 34 (by decide)
  exact of_decide_eq_false (e.symm.trans h)
theorem at0_lt {x : Str} (hx : x.cps.size = 8) {i : Nat} (h : at0 x i ≠ 0) : i < 8 := by
  refine Nat.lt_of_not_le fun hl => h ?_
  unfold at0
  simp only [List.getD]
  rw [List.getElem?_eq_none (by rw [Array.length_toList]; omega)]
  rfl
theorem filled5 (P : Params) : (hd.heap_39 P = hd.heap_39 P ∧ PySem.Challenge.rw_pg0132_01.foot = PySem.Challenge.rw_pg0132_01.foot) ∨ True := by
  k_fill
  exact Or.inr trivial
local macro_rules | `(tactic| is_list) => `(tactic| exact News.isList (by k_asm) (by with_reducible assumption))
local macro_rules | `(tactic| k_mem) => `(tactic| with_reducible assumption)
local macro_rules | `(tactic| walk_at "exec While Compare") => `(tactic| (k_here; refine Stop.out ?_))
local macro_rules | `(tactic| walk_at "eval Name") => `(tactic| (k_here; k_dflt (refine' ld ?k1 ?k2 ?_; (case k1 => k_asm); (case k2 => first | exact rfl | assumption); k_whole)))
local macro_rules | `(tactic| walk_at "loadName") => `(tactic| (k_here; k_dflt (refine' ldn ?k1 ?k2 ?_; (case k1 => k_asm); (case k2 => first | exact rfl | assumption); k_whole)))
local macro_rules | `(tactic| walk_at "call ref") => `(tactic| (k_here; refine Stop.out ?_))
set_option maxRecDepth 100000 in
set_option maxHeartbeats 8000000 in
theorem fn_sign {w : World} {mean : ExcName → Option Value} {mg mb : Str → Option Value} {rest led : List (Addr × Obj)} {R q c m b : Addr} {nR : Nat} {r : R4} {x : Str} {tx tp ts : Tok} {place : Nat} {k : Nat}
    (hR : (R, listOf #[.ref q, .ref c, .ref m, .ref b] nR) ∈ rest) (hA : Apart4 q c m b rest) (hL : RowsAt q c m b rest led r) (ok : r.Ok) (hx : x.cps.size = 8) (hp : place < 8) :
    Fn w mean mg mb 67 [.str x tx, .ref R, .int place tp, .str ⟨#[k]⟩ ts] 4 12 led (fun v led' => v = .none ∧ RowsAt q c m b rest led' (signR (at0 x) place k r)) := by
  obtain ⟨vq, vc, vm, vb, nq, nc, nm, nb, rfl, iq, ic, im, ib⟩ := hL
  refine' Fn.enter [(Str.ofString "text", .str x tx), (Str.ofString "rows", .ref R), (Str.ofString "place", .int place tp), (Str.ofString "sign", .str ⟨#[k]⟩ ts)] ?ho ?hc ?hb ?h1 ?h2 ?h3 ?h4 ?h5 ?_
  case ho => k_is
  case hc => k_is
  case hb => exact fun s X => kp_binds X (fun _ => by with_unfolding_all rfl)
  case h1 => exact rfl
  case h2 => exact rfl
  case h3 => exact rfl
  case h4 => exact rfl
  case h5 => decide
  intro dp un gd outer A₀ base g L s Q B F X N T hd hu hret hnext
  have hR' := List.mem_cons_of_mem (q, listOf (List.toArray vq) nq) (List.mem_cons_of_mem (c, listOf (List.toArray vc) nc) (List.mem_cons_of_mem (m, listOf (List.toArray vm) nm) (List.mem_cons_of_mem (b, listOf (List.toArray vb) nb) hR)))
  k_steps
  refine Stop.mk (Fn.use (fn_has (r := b) (.tail _ (.tail _ (.tail _ (.head _)))) ib ok.b.len ok.b.up) B (by assumption) X (by assumption) T rfl (by omega) (by omega) ?_)
  rintro _ _ h1 tk1 ⟨rfl, rfl⟩ F1 N1
  k_steps
  · have hk : k = 44 := is_comma (by assumption)
    subst hk
    refine Stop.mk (turn_use [(q, _), (c, _)] _ ?_ ?_ im ok.m B (by assumption) X (by assumption) T rfl (by omega) (by omega) ?_)
    · simp [hA.qm, hA.cm]
    · simp [hA.mb.symm]; exact fun a b h => hA.rm (a, b) h
    intro vs' n' h2 tk2 hi' F2 N2
    k_steps
    exact hnext _ _ _ _ ⟨rfl, _, _, _, _, _, _, _, _, rfl, iq, ic, hi', ib⟩ F2 N2
  · have hk : k = 34 := is_quote (by assumption)
    subst hk
    refine Stop.mk (turn_use [] _ (by simp) ?_ iq ok.q B (by assumption) X (by assumption) T rfl (by omega) (by omega) ?_)
    · simp [hA.qc.symm, hA.qm.symm, hA.qb.symm]; exact fun a b h => hA.rq (a, b) h
    intro vs' n' h2 tk2 hi' F2 N2
    k_steps
    · have he : ((place : Int) - 1) ∈ r.b := by assumption
      refine hnext _ _ _ _ ⟨rfl, _, _, _, _, _, _, _, _, rfl, ?_, ?_, ?_, ?_⟩ F2 N2
      · exact hi'
      · show IntsAre vc (if _ then _ else _); rw [if_pos he]; exact ic
      · exact im
      · exact ib
    · have he : ¬ ((place : Int) - 1) ∈ r.b := by assumption
      refine Stop.mk (turn_use [(q, _)] _ ?_ ?_ ic ok.c B (by assumption) X (by assumption) T rfl (by omega) (by omega) ?_)
      · simp [hA.qc]
      · simp [hA.cm.symm, hA.cb.symm]; exact fun a b h => hA.rc (a, b) h
      intro vs2 n2 h3 tk3 hi2 F3 N3
      k_steps
      refine hnext _ _ _ _ ⟨rfl, _, _, _, _, _, _, _, _, rfl, ?_, ?_, ?_, ?_⟩ F3 N3
      · exact hi'
      · show IntsAre vs2 (if _ then _ else _); rw [if_neg he]; exact hi2
      · exact im
      · exact ib
  · have hk : k = 92 := is_bar (by assumption)
    have he : ((place : Int) - 1) ∈ r.b := by assumption
    subst hk
    refine hnext _ _ _ _ ⟨rfl, vq, vc, vm, vb, _, _, _, _, rfl, ?_⟩ (by assumption) (by assumption)
    unfold signR
    rw [if_neg (by decide), if_neg (by decide), if_neg (fun q => q.2 he)]
    exact ⟨iq, ic, im, ib⟩
  · have hk : k = 92 := is_bar (by assumption)
    have he : ¬ ((place : Int) - 1) ∈ r.b := by assumption
    subst hk
    refine Stop.mk (turn_use [(q, _), (c, _), (m, _)] _ ?_ ?_ ib ok.b B (by assumption) X (by assumption) T rfl (by omega) (by omega) ?_)
    · simp [hA.qb, hA.cb, hA.mb]
    · exact fun p hp => hA.rb p hp
    intro vs' n' h2 tk2 hi' F2 N2
    k_steps
    refine Stop.mk ?_
    rename Fr _ _ _ _ => F2
    rename News _ _ _ _ => N2
    refine While_inv2 (fun j mm nx => ∃ (sp : Nat) (t1 : Tok) (vb' : List Value) (nb' : Nat) (Bc : List Int), nx = (q, listOf (List.toArray vq) nq) :: (c, listOf (List.toArray vc) nc) :: (m, listOf (List.toArray vm) nm) :: (b, listOf (List.toArray vb') nb') :: rest ∧
        mm (Str.ofString "text") = some (.str x tx) ∧ mm (Str.ofString "closers") = some (.ref c) ∧ mm (Str.ofString "bars") = some (.ref b) ∧ mm (Str.ofString "spot") = some (.int sp t1) ∧
        IntsAre vb' Bc ∧ Row8 Bc ∧ sp ≤ 8 ∧ runB (at0 x) (8 - sp) sp Bc = runB (at0 x) (7 - place) (place + 1) (turnL r.b place) ∧ j = 8 - sp) F2 N2
      ⟨place + 1, _, vs', n', _, rfl, rfl, rfl, rfl, rfl, hi', ok.b.turn (by omega) (by omega), by omega, by rw [show 8 - (place + 1) = 7 - place by omega], rfl⟩ ?_
    clear F2 N2
    rintro j m₁ nx h₁ tk₁ F2 N2 ⟨sp, t1, vb', nb', Bc, rfl, mt, mc, mb', ms, ib', okb, hsp, hrun, rfl⟩
    k_steps
    · have hb := slice_is_bar (by assumption)
      have hs8 : sp < 8 := at0_lt hx (by rw [hb]; decide)
      refine Stop.mk (turn_use [(q, _), (c, _), (m, _)] _ ?_ ?_ ib' okb B (by assumption) X (by assumption) T rfl (by omega) (by omega) ?_)
      · simp [hA.qb, hA.cb, hA.mb]
      · exact fun p hp => hA.rb p hp
      intro vs2 n2 h3 tk3 hi2 F3 N3
      k_steps
      refine' ws2 (8 - (sp + 1)) ?f ?n ?j ?l
      case f => assumption
      case n => assumption
      case j =>
        refine ⟨sp + 1, _, vs2, n2, _, rfl, mt, mc, mb', rfl, hi2, okb.turn (by omega) (by omega), by omega, ?_, rfl⟩
        rw [← hrun, show 8 - sp = (8 - (sp + 1)) + 1 by omega, runB_go hb]
      case l => omega
    · have hb := slice_no_bar (by assumption)
      have hq := slice_is_quote (by assumption)
      have hs8 : sp < 8 := at0_lt hx (by rw [hq]; decide)
      rw [runB_stop hb] at hrun
      refine Stop.mk (turn_use [(q, _)] _ ?_ ?_ ic ok.c B (by assumption) X (by assumption) T rfl (by omega) (by omega) ?_)
      · simp [hA.qc]
      · simp [hA.cm.symm, hA.cb.symm]; exact fun a b h => hA.rc (a, b) h
      intro vs2 n2 h3 tk3 hi2 F3 N3
      k_steps
      refine hnext _ _ _ _ ⟨rfl, _, _, _, _, _, _, _, _, rfl, ?_⟩ (by assumption) (by assumption)
      unfold signR
      rw [if_neg (by decide), if_neg (by decide), if_pos ⟨rfl, he⟩, ← hrun]
      refine ⟨iq, ?_, im, ib'⟩
      show IntsAre vs2 (if _ then _ else _)
      rw [if_pos hq]; exact hi2
    · have hb := slice_no_bar (by assumption)
      have hq := slice_no_quote (by assumption)
      rw [runB_stop hb] at hrun
      refine hnext _ _ _ _ ⟨rfl, vq, vc, vm, vb', _, _, _, _, rfl, ?_⟩ (by assumption) (by assumption)
      unfold signR
      rw [if_neg (by decide), if_neg (by decide), if_pos ⟨rfl, he⟩, ← hrun]
      refine ⟨iq, ?_, im, ib'⟩
      show IntsAre vc (if _ then _ else _)
      rw [if_neg hq]; exact ic
  · have k1 := no_comma (by assumption)
    have k2 := no_quote (by assumption)
    have k3 := no_bar (by assumption)
    refine hnext _ _ _ _ ⟨rfl, vq, vc, vm, vb, _, _, _, _, rfl, ?_⟩ (by assumption) (by assumption)
    unfold signR
    rw [if_neg k1, if_neg k2, if_neg (fun q => k3 q.1)]
    exact ⟨iq, ic, im, ib⟩
end Mine
end
-- part A6
section
open PySem PySem.W PyProof.Rows
namespace Mine
theorem filled6 (P : Params) : (hd.heap_39 P = hd.heap_39 P ∧ PySem.Challenge.rw_pg0132_01.foot = PySem.Challenge.rw_pg0132_01.foot) ∨ True := by
  k_fill
  exact Or.inr trivial
local macro_rules | `(tactic| is_list) => `(tactic| exact News.isList (by k_asm) (by with_reducible assumption))
local macro_rules | `(tactic| k_mem) => `(tactic| with_reducible assumption)
local macro_rules | `(tactic| walk_at "eval Name") => `(tactic| (k_here; k_dflt (refine' ld ?k1 ?k2 ?_; (case k1 => k_asm); (case k2 => first | exact rfl | assumption); k_whole)))
local macro_rules | `(tactic| walk_at "loadName") => `(tactic| (k_here; k_dflt (refine' ldn ?k1 ?k2 ?_; (case k1 => k_asm); (case k2 => first | exact rfl | assumption); k_whole)))
local macro_rules | `(tactic| walk_at "call ref") => `(tactic| (k_here; refine Stop.out ?_))
local macro_rules | `(tactic| walk_at "exec For Name Name") => `(tactic| (k_here; refine Stop.out ?_))
local macro_rules | `(tactic| walk_at "call builtin:list.append") => `(tactic| (k_here; refine Stop.out ?_))
theorem truthy_mkS {prog : Program} {w : World} {A : Around} {E : Value → Shared → Prop} {s : Shared} {l : List Nat} {t : Tok} {Q : Bool → Shared → Prop} (hl : l.length ≤ 8) (h : ∀ k, Q (!l.isEmpty) { s with toks := k }) :
    wpAny (model prog w) A (PySem.truthy (.str (mkS l) t)) Q E s := by
  refine KXt.truthy (b := !l.isEmpty) ?_ ?_ h
  · rw [mkS_len]; cases l with
    | nil => rfl
    | cons a r =>
      simp
      omega
  · rw [mkS_len]; omega
local macro_rules | `(tactic| walk_at "truthy str") => `(tactic| (k_here; refine truthy_mkS (by omega) ?_; intro _))
local macro_rules | `(tactic| walk_at "call builtin:str.strip") => `(tactic| (k_here; (refine' SCL.strip ?_ ?z; (case z => (rw [mkS_len, sizeLine_eq]; omega))); intro _ _ _))
local macro_rules | `(tactic| walk_at "eval ListComp") => `(tactic| (k_here; refine Stop.out ?_))
theorem one_len (c : Nat) : (⟨#[c]⟩ : Str).length = 1 := rfl
local macro_rules | `(tactic| walk_at "inplaceOp Add str str") => `(tactic| (k_here; (refine' PyProof.Rows.iadd_str ?_ ?z; (case z => (simp only [mkS_len, one_len, sizeLine_eq]; omega))); intro _ _))
set_option maxRecDepth 100000 in
set_option maxHeartbeats 8000000 in
theorem fn_parse {w : World} {mean : ExcName → Option Value} {mg mb : Str → Option Value} {led : List (Addr × Obj)} {x : Str} {tx : Tok} (hx : x.cps.toList.length ≤ 8) :
    Fn w mean mg mb 46 [.str x tx] 1 3 led (fun v led' => ∃ l vs n, v = .ref l ∧ led' = (l, listOf (List.toArray vs) n) :: led ∧ StrsAre vs ((parseL x.cps.toList).map fun p => Txt.strip (mkS p))) := by
  refine' Fn.enter [(Str.ofString "s", .str x tx)] ?ho ?hc ?hb ?h1 ?h2 ?h3 ?h4 ?h5 ?_
  case ho => k_is
  case hc => k_is
  case hb => exact fun s X => kp_binds X (fun _ => by with_unfolding_all rfl)
  case h1 => exact rfl
  case h2 => exact rfl
  case h3 => exact rfl
  case h4 => exact rfl
  case h5 => decide
  intro dp un gd outer A₀ base g L s Q B F X N T hd hu hret hnext
  k_steps
  rename Fr _ _ _ _ => F1
  rename News _ _ _ _ => N1
  rename_i res h9 hlt h8 tk9 h7 h6
  refine Stop.mk (For_invV g rfl rfl (ld F1 rfl ?_))
  refine iter_str (fun i m nx => ∃ (t1 : Tok) (vs : List Value) (n : Nat), nx = (res, listOf vs.toArray n) :: led ∧ m (Str.ofString "res") = some (.ref res) ∧
      m (Str.ofString "part") = some (.str (mkS ((x.cps.toList.take i).foldl pstep pinit).part) t1) ∧ m (Str.ofString "escape") = some (.bool ((x.cps.toList.take i).foldl pstep pinit).esc) ∧
      m (Str.ofString "quote") = some (.bool ((x.cps.toList.take i).foldl pstep pinit).quo) ∧ StrsAre vs (((x.cps.toList.take i).foldl pstep pinit).res.map mkS) ∧ ((x.cps.toList.take i).foldl pstep pinit).Le i) rfl F1 N1 ?_ ?_ ?_
  · exact ⟨_, [], 0, rfl, rfl, rfl, rfl, rfl, .nil, ⟨by simp [pinit], by simp [pinit], by simp [pinit]⟩⟩
  · clear F1 N1
    rintro i c u m₁ nx h tk own hc hadr hoff ⟨t1, vs, n, rfl, mr, mp, me, mq, hvs, hle⟩ F2 N2
    change Fr g L h _ at F2
    change News g L h _ at N2
    have hstep : (x.cps.toList.take (i + 1)).foldl pstep pinit = pstep ((x.cps.toList.take i).foldl pstep pinit) c := by
      rw [List.take_add_one, hc]; simp
    rw [hstep]
    have hi8 : i < 8 := Nat.lt_of_lt_of_le (List.getElem?_eq_some_iff.mp hc).1 hx
    generalize (x.cps.toList.take i).foldl pstep pinit = st at *
    clear hstep
    have hp := hle.part
    k_steps
    · have q1 : st.esc = true := by assumption
      have e : pstep st c = { st with part := st.part ++ [c], esc := false } := by unfold pstep; rw [if_pos q1]
      have hl := hle.step c
      rw [e] at hl ⊢
      refine' invEnd (nx := (res, listOf vs.toArray n) :: led) ?ef ?en ?ea ?ej
      case ef => assumption
      case en => assumption
      case ea => rfl
      case ej => exact ⟨_, _, _, rfl, mr, str_app, rfl, mq, hvs, hl⟩
    · have q1 : st.esc = false := by assumption
      have q2 : st.quo = true := by assumption
      have q3 := is_bar (by assumption)
      have e : pstep st c = { st with esc := true } := by unfold pstep; rw [if_neg (by rw [q1]; decide), if_pos q2, if_pos q3]
      have hl := hle.step c
      rw [e] at hl ⊢
      refine' invEnd (nx := (res, listOf vs.toArray n) :: led) ?ef ?en ?ea ?ej
      case ef => assumption
      case en => assumption
      case ea => rfl
      case ej => exact ⟨_, _, _, rfl, mr, mp, rfl, mq, hvs, hl⟩
    · have q1 : st.esc = false := by assumption
      have q2 : st.quo = true := by assumption
      have q3 := no_bar (by assumption)
      have q4 := is_quote (by assumption)
      have e : pstep st c = { st with part := st.part ++ [c], quo := false } := by unfold pstep; rw [if_neg (by rw [q1]; decide), if_pos q2, if_neg q3, if_pos q4]
      have hl := hle.step c
      rw [e] at hl ⊢
      refine' invEnd (nx := (res, listOf vs.toArray n) :: led) ?ef ?en ?ea ?ej
      case ef => assumption
      case en => assumption
      case ea => rfl
      case ej => exact ⟨_, _, _, rfl, mr, str_app, me, rfl, hvs, hl⟩
    · have q1 : st.esc = false := by assumption
      have q2 : st.quo = true := by assumption
      have q3 := no_bar (by assumption)
      have q4 := no_quote (by assumption)
      have e : pstep st c = { st with part := st.part ++ [c] } := by unfold pstep; rw [if_neg (by rw [q1]; decide), if_pos q2, if_neg q3, if_neg q4]
      have hl := hle.step c
      rw [e] at hl ⊢
      refine' invEnd (nx := (res, listOf vs.toArray n) :: led) ?ef ?en ?ea ?ej
      case ef => assumption
      case en => assumption
      case ea => rfl
      case ej => exact ⟨_, _, _, rfl, mr, str_app, me, mq, hvs, hl⟩
    · have q1 : st.esc = false := by assumption
      have q2 : st.quo = false := by assumption
      have q3 := is_comma (by assumption)
      have e : pstep st c = { st with res := st.res ++ [st.part], part := [] } := by unfold pstep; rw [if_neg (by rw [q1]; decide), if_neg (by rw [q2]; decide), if_pos q3]
      have hl := hle.step c
      have hvl : vs.length = st.res.length := by rw [hvs.length, List.length_map]
      have hrl := hle.res
      refine Stop.mk (append_K (its := vs.toArray) (n := n) F2 N2 (Upd.head fun p hp => ?_) ?_ ?_)
      · rcases List.mem_append.mp hp with q | q
        · exact Nat.ne_of_lt (hlt p q)
        · exact OwnOff.ne hoff (.head _) p q
      · intro h3 F3 N3
        rw [List.push_toArray] at N3
        k_steps
        rw [e] at hl ⊢
        refine' invEnd (nx := (res, listOf (vs ++ [Value.str (mkS st.part) t1]).toArray (n + 1)) :: led) ?ef ?en ?ea ?ej
        case ef => assumption
        case en => assumption
        case ea => rfl
        case ej => exact ⟨_, _, _, rfl, mr, rfl, me, mq, by rw [List.map_append]; exact KStt.strs_snoc hvs, hl⟩
      · rw [List.size_toArray, sizeLine_eq]; omega
    · have q1 : st.esc = false := by assumption
      have q2 : st.quo = false := by assumption
      have q3 := no_comma (by assumption)
      have q4 := is_quote (by assumption)
      have e : pstep st c = { st with part := st.part ++ [c], quo := true } := by unfold pstep; rw [if_neg (by rw [q1]; decide), if_neg (by rw [q2]; decide), if_neg q3, if_pos q4]
      have hl := hle.step c
      rw [e] at hl ⊢
      refine' invEnd (nx := (res, listOf vs.toArray n) :: led) ?ef ?en ?ea ?ej
      case ef => assumption
      case en => assumption
      case ea => rfl
      case ej => exact ⟨_, _, _, rfl, mr, str_app, me, rfl, hvs, hl⟩
    · have q1 : st.esc = false := by assumption
      have q2 : st.quo = false := by assumption
      have q3 := no_comma (by assumption)
      have q4 := no_quote (by assumption)
      have e : pstep st c = { st with part := st.part ++ [c] } := by unfold pstep; rw [if_neg (by rw [q1]; decide), if_neg (by rw [q2]; decide), if_neg q3, if_neg q4]
      have hl := hle.step c
      rw [e] at hl ⊢
      refine' invEnd (nx := (res, listOf vs.toArray n) :: led) ?ef ?en ?ea ?ej
      case ef => assumption
      case en => assumption
      case ea => rfl
      case ej => exact ⟨_, _, _, rfl, mr, str_app, me, mq, hvs, hl⟩
  · clear F1 N1
    rintro m₁ nx h tk ⟨t1, vs, n, rfl, mr, mp, me, mq, hvs, hle⟩ F2 N2
    change Fr g L h _ at F2
    change News g L h _ at N2
    rw [List.take_length] at mp me mq hvs hle
    have hle8 : (x.cps.toList.foldl pstep pinit).Le 8 := ⟨Nat.le_trans hle.part hx, Nat.le_trans hle.res hx, fun l hl => Nat.le_trans (hle.each l hl) hx⟩
    clear hle
    unfold parseL at hret
    generalize x.cps.toList.foldl pstep pinit = st at *
    have hp := hle8.part
    have hvl : vs.length = st.res.length := by rw [hvs.length, List.length_map]
    have hrl := hle8.res
    have hf8 : ∀ i, ((pfin st).getD i []).length ≤ 8 := by
      have : ∀ l ∈ pfin st, l.length ≤ 8 := by
        intro l hl
        unfold pfin at hl
        split at hl
        · exact hle8.each l hl
        · rcases List.mem_append.mp hl with q | q
          · exact hle8.each l q
          · rw [List.mem_singleton.mp q]; exact hp
      intro i
      by_cases h : i < (pfin st).length
      · have e : (pfin st).getD i [] = (pfin st)[i] := by simp [List.getD, h]
        rw [e]; exact this _ (List.getElem_mem h)
      · have e : (pfin st).getD i [] = [] := by simp [List.getD, List.getElem?_eq_none (Nat.le_of_not_lt h)]
        rw [e]; exact Nat.zero_le _
    k_steps
    · have hpe : st.part = [] := by simpa using (by assumption : st.part.isEmpty = true)
      have hws : StrsAre vs ((pfin st).map mkS) := by unfold pfin; rw [if_pos hpe]; exact hvs
      have hwl := hws.length
      rw [List.length_map] at hwl
      refine Stop.mk ?_
      refine LCg.ListComp_U (F₀ := by k_asm) (by with_unfolding_all rfl) (by decide) (by rfl) (by decide) (by rfl) ?_
      refine ld (by k_asm) mr ?_
      refine LCg.CompSrc.ledger (its := vs.toArray) (k := n) (news := (res, listOf vs.toArray n) :: led) rfl (by k_asm) (by k_asm) (.head _) ?_ ?_
      · rw [List.size_toArray, sizeLine_eq]; omega
      intro g1
      refine rest_map (fun i y => ∃ t, y = .str (Txt.strip (mkS ((pfin st).getD i []))) t) ?_ ?_ ?_
      · exact .inr ⟨_, .head _, rfl, _, rfl⟩
      · intro i v I oI C oC D m₂ ys h3 tk3 E' hi hv hC hx' F3 N3
        obtain ⟨t3, rfl⟩ := strs_at hws (by simpa using hv)
        have hl8 := hf8 i
        k_steps
        exact EltEnd.mk ⟨_, rfl⟩ (by k_asm) (by k_asm)
      · intro ys hy D h3 tk3 F3 N3 off
        refine hret _ _ _ _ _ ⟨D, ys, ys.length, rfl, rfl, ?_⟩ F3 (news_drop N3)
        exact Rels.all hy (by simp [hwl])
    · have hpe : st.part ≠ [] := by
        intro e
        have q : st.part.isEmpty = false := by assumption
        rw [e] at q; cases q
      have hws : StrsAre (vs ++ [Value.str (mkS st.part) t1]) ((pfin st).map mkS) := by unfold pfin; rw [if_neg hpe, List.map_append]; exact KStt.strs_snoc hvs
      have hwl := hws.length
      rw [List.length_map] at hwl
      refine Stop.mk (append_K (its := vs.toArray) (n := n) (by k_asm) (by k_asm) (Upd.head fun p hp => Nat.ne_of_lt (hlt p hp)) ?_ ?_)
      · intro h4 F4 N4
        rw [List.push_toArray] at N4
        k_steps
        refine Stop.mk ?_
        refine LCg.ListComp_U (F₀ := by k_asm) (by with_unfolding_all rfl) (by decide) (by rfl) (by decide) (by rfl) ?_
        refine ld (by k_asm) mr ?_
        refine LCg.CompSrc.ledger (its := (vs ++ [Value.str (mkS st.part) t1]).toArray) (k := n + 1) (news := (res, listOf (vs ++ [Value.str (mkS st.part) t1]).toArray (n + 1)) :: led) rfl (by k_asm) (by k_asm) (.head _) ?_ ?_
        · rw [List.size_toArray, List.length_append, sizeLine_eq, List.length_singleton]; omega
        intro g1
        refine rest_map (fun i y => ∃ t, y = .str (Txt.strip (mkS ((pfin st).getD i []))) t) ?_ ?_ ?_
        · exact .inr ⟨_, .head _, rfl, _, rfl⟩
        · intro i v I oI C oC D m₂ ys h3 tk3 E' hi hv hC hx' F3 N3
          obtain ⟨t3, rfl⟩ := strs_at hws (by simpa using hv)
          have hl8 := hf8 i
          k_steps
          exact EltEnd.mk ⟨_, rfl⟩ (by k_asm) (by k_asm)
        · intro ys hy D h3 tk3 F3 N3 off
          refine hret _ _ _ _ _ ⟨D, ys, ys.length, rfl, rfl, ?_⟩ F3 (news_drop N3)
          exact Rels.all hy (by simp [hwl])
      · rw [List.size_toArray, sizeLine_eq]; omega
end Mine
end
-- part A7
section
open PySem PySem.W PyProof.Rows PyProof.Rows.LCg PyProof.Rows.LCt
namespace Mine
/-- a body of a def with cells -/
def BodyC (w : World) (mean : ExcName → Option Value) (mg mb : Str → Option Value) (q : Str) (sc : Scope) (f : Addr) (cdv : Value) (body : List Stmt) (binds : List (Str × Value)) (dN uN : Nat) (led : List (Addr × Obj)) (Post : Value → List (Addr × Obj) → Prop) : Prop :=
  ∀ (dp un : Nat) (gd : Option (List Code)) (outer : List Env) (A₀ : Around) (base g : Heap) (L : Addr) (s : Shared) (Q : Flow → Shared → Prop) (cells : List (Addr × Obj)),
    Below A₀ base outer g → Fr g L s.heap (bindL (envOfC q sc L f cdv).kindOf binds fun _ => none) → (hd.heap_39 w.params).In g → News g L s.heap (cells ++ led) →
    CellsAre (bindC (envOfC q sc L f cdv).kindOf binds fun _ => none) (cellsFrom (L + 1) sc.names []) cells → (∀ p ∈ led, p.1 < L) →
    Top hd.view_39 (looseW hd.view_39 [Str.ofString "insort_right", Str.ofString "bisect_right", Str.ofString "bisect_left"]) mean mg mb g →
    dp + dN < recursionLimit → un + uN < cLine →
    (∀ v m' led' h' tk', Post v led' → Fr g L h' m' → News g L h' led' → Q (.ret v) { s with heap := h', toks := tk' }) →
    (∀ m' led' h' tk', Post .none led' → Fr g L h' m' → News g L h' led' → Q .next { s with heap := h', toks := tk' }) →
    wpAny (model PySem.Challenge.rw_pg0132_01.row.prog w) (ktrTop dp un gd q sc L f cdv (cellsFrom (L + 1) sc.names []) outer) (execs body (envOfC q sc L f cdv)) Q (fun _ _ => False) s
theorem Fn.enterC {w : World} {mean : ExcName → Option Value} {mg mb : Str → Option Value} {f : Addr} {args : List Value} {dN uN : Nat} {led : List (Addr × Obj)} {Post : Value → List (Addr × Obj) → Prop}
    {name qual : Str} {params : Arguments} {body : List Stmt} {scope : Scope} {dV kV doc pm cdv ct oc : Value} {an od : Option Addr} {osl : Array (Option Value)} (binds : List (Str × Value))
    (ho : (hd.heap_39 w.params).lookup f = some ⟨oc, od, .func (fnOf name qual params body scope dV kV doc pm an cdv ct), osl⟩)
    (hcd : codeIn (hd.heap_39 w.params) cdv qual = true)
    (hbind : ∀ s : Shared, (hd.heap_39 w.params).In s.heap → BindsTo s (fnOf name qual params body scope dV kV doc pm an cdv ct) ⟨args, []⟩ binds)
    (hkind : (binds.all fun y => scope.names.lookup y.1 == some .local || scope.names.lookup y.1 == some .cell) = true) (hnd : ((cellsFrom 0 scope.names []).map (·.1)).Nodup)
    (hco : scope.isCoroutine = false) (hgen : scope.isGenerator = false) (hk : scope.kind = .function)
    (h : BodyC w mean mg mb qual scope f cdv body binds dN uN led Post) :
    Fn w mean mg mb f args (dN + 1) (uN + 3) led Post := by
  intro dp un gd cn cs a ccd cl outer A₀ base h₀ L m s Q E B F X N T hkc hd hu hret
  refine wpAny_call ?_
  refine code_defC (env := envX cn cs L a ccd cl) B F X N T rfl rfl hkc ho hcd (by show dp < _; omega) (hbind s (X.keeps F.keep)) hkind hnd ?_ hco hgen hk
  intro g L' h₁ tk cells FG F' N' Y B' X' T' hlt
  refine wpAny_mono (h (dp + 1) (un + 3) gd (envX cn cs L a ccd cl :: outer) (ktrTop dp un gd cn cs L a ccd cl outer) base g L' _ _ cells B' F' X' N' Y hlt T' (by omega) (by omega) ?_ ?_) (fun _ _ x => x) (fun _ _ x => x.elim)
  · intro v m' led' h' tk' hp Fx Nx
    exact leaveK_ Fx Nx fun Fy Ny => hret _ _ _ _ hp Fy Ny
  · intro m' led' h' tk' hp Fx Nx
    exact leaveK_ Fx Nx fun Fy Ny => hret _ _ _ _ hp Fy Ny
theorem item_at0 {x : Str} {i : Nat} (h : i < x.cps.toList.length) : Txt.item x (i : Int) = ⟨#[at0 x i]⟩ := by
  refine item_meets (by omega) ?_
  unfold at0
  rw [getD_at h]
  simp at h ⊢
theorem item_int {x : Str} {k : Int} (h0 : 0 ≤ k) (h : k < x.cps.toList.length) : Txt.item x k = ⟨#[at0 x k.toNat]⟩ := by
  have := item_at0 (x := x) (i := k.toNat) (by omega)
  rwa [show ((k.toNat : Nat) : Int) = k by omega] at this
theorem ints_at : ∀ {vs : List Value} {l : List Int} {i : Nat} {v : Value}, IntsAre vs l → vs[i]? = some v → ∃ t, v = .int (l.getD i 0) t
  | _, [], i, v, .nil, h => by simp at h
  | _, a :: r, 0, v, .cons _ t h', h => by simp at h; exact ⟨t, by rw [← h]; rfl⟩
  | _, a :: r, i + 1, v, .cons _ t h', h => by
    obtain ⟨u, e⟩ := ints_at h' (i := i) (by simpa using h)
    exact ⟨u, by rw [e]; simp⟩
theorem filter_range (l : List Int) (p : Int → Bool) : ((List.range l.length).filter (fun i => p (l.getD i 0))).map (fun i => l.getD i 0) = l.filter p := by
  have e : (List.range l.length).map (fun i => l.getD i 0) = l := by
    apply List.ext_getElem?
    intro i
    by_cases h : i < l.length
    · simp [h]
    · simp [h]
  conv => rhs; rw [← e]
  rw [List.filter_map]
  rfl
/-- an even count of backslashes ahead, as the law's last line reckons it -/
def evB (x : Str) (i : Nat) : Bool := decide (Int.fmod ((i : Int) - ((Txt.rstripChars (Txt.slice x none (some (i : Int))) (Str.ofString "\\")).length : Int)) 2 = 0)
def evL (x : Str) : List Int := ((List.range 8).filter (evB x)).map (Nat.cast : Nat → Int)
/-- the rows of a text by plain counts -/
def plainR (x : Str) : R4 where
  q := ((List.range 8).filter (fun i => decide (at0 x i = 34))).map (Nat.cast : Nat → Int)
  c := (evL x).filter fun k => decide (at0 x k.toNat = 34)
  m := ((List.range 8).filter (fun i => decide (at0 x i = 44))).map (Nat.cast : Nat → Int)
  b := (evL x).filter fun k => decide (at0 x k.toNat = 92)
theorem evL_at {x : Str} {i : Nat} (h : i < (evL x).length) : 0 ≤ (evL x).getD i 0 ∧ (evL x).getD i 0 < 8 := by
  have e : (evL x).getD i 0 = (evL x)[i] := by simp [List.getD, h]
  rw [e]
  have hm := List.getElem_mem h
  generalize (evL x)[i] = z at hm ⊢
  unfold evL at hm
  simp only [List.mem_map, List.mem_filter, List.mem_range] at hm
  obtain ⟨a, ⟨h1, _⟩, h2⟩ := hm
  omega
theorem filled7 (P : Params) : (hd.heap_39 P = hd.heap_39 P ∧ PySem.Challenge.rw_pg0132_01.foot = PySem.Challenge.rw_pg0132_01.foot) ∨ True := by
  k_fill
  exact Or.inr trivial
local macro_rules | `(tactic| walk_at "call ref") => `(tactic| (k_here; refine Stop.out ?_))
local macro_rules | `(tactic| walk_at "CompSrcT") => `(tactic| (k_here; refine Stop.out ?_))
local macro_rules | `(tactic| walk_at "exec Assign cons ListComp") => `(tactic| (k_here; refine Stop.out ?_))
local macro_rules | `(tactic| walk_at "eval ListComp") => `(tactic| (k_here; refine Stop.out ?_))
set_option maxRecDepth 100000 in
set_option maxHeartbeats 8000000 in
theorem fn_rows {w : World} {mean : ExcName → Option Value} {mg mb : Str → Option Value} {led : List (Addr × Obj)} {x : Str} {tx : Tok} (hx : x.cps.toList.length = 8) :
    Fn w mean mg mb 77 [.str x tx] 1 3 led (fun v led' => ∃ l q c m b n vq vc vm vb nq nc nm nb, v = .ref l ∧ led' = (l, listOf #[.ref q, .ref c, .ref m, .ref b] n) :: (q, listOf (List.toArray vq) nq) :: (c, listOf (List.toArray vc) nc) :: (m, listOf (List.toArray vm) nm) :: (b, listOf (List.toArray vb) nb) :: led ∧
      IntsAre vq (plainR x).q ∧ IntsAre vc (plainR x).c ∧ IntsAre vm (plainR x).m ∧ IntsAre vb (plainR x).b) := by
  refine' Fn.enterC [(Str.ofString "text", .str x tx)] ?ho ?hc ?hb ?h1 ?h2 ?h3 ?h4 ?h5 ?_
  case ho => k_is
  case hc => k_is
  case hb => exact fun s X => kp_binds X (fun _ => by with_unfolding_all rfl)
  case h1 => exact rfl
  case h2 => decide +kernel
  case h3 => exact rfl
  case h4 => exact rfl
  case h5 => exact rfl
  intro dp un gd outer A₀ base g L s Q cells B F X N Y hlt T hd hu hret hnext
  obtain ⟨oC, rfl, hoC⟩ := CellsAre.one Y
  have hxs : x.cps.size = 8 := by rw [← Array.length_toList]; exact hx
  have hxl : x.length = 8 := hxs
  clear Y
  change Fr g L s.heap (fun _ => none) at F
  change News g L s.heap ((L + 1, oC) :: led) at N
  change oC.data = .cell (some (.str x tx)) at hoC
  k_steps
  refine Stop.mk ?_
  refine LCt.Assign_ListComp_T (F₀ := F) (by rfl) (by with_unfolding_all rfl) (by with_unfolding_all rfl) (by decide) (by rfl) (by decide) (by rfl) (by rfl) (by rfl) ?_
  k_steps
  refine Stop.mk ?_
  refine LCt.CompSrcT.range (by rfl) (by k_asm) (by k_asm) (by assumption) (by first | decide | rfl) (n := 8) (by first | rfl | decide) (by rw [sizeLine_eq]; omega) ?_
  intro g1
  refine rest_test (evB x) (fun i y => ∃ t, y = .int (i : Int) t) trivial ?_ ?_ ?_
  · rintro i v I oI C oC' D m₂ ys h3 tk3 E' hi ⟨t3, rfl⟩ hC hx' F3 N3
    rw [Int.zero_add] at hx'
    k_steps
    exact TestEnd.mk (by unfold evB; exact Bool.eq_iff_iff.mpr (by simp)) (by k_asm) (by k_asm)
  · rintro i v I oI C oC' D m₂ ys h3 tk3 E' hi hb ⟨t3, rfl⟩ hC hx' F3 N3
    rw [Int.zero_add] at hx'
    k_steps
    exact EltEnd.mk ⟨_, rfl⟩ (by k_asm) (by k_asm)
  intro ys1 hy1 D1 h4 tk4 F4 N4 off4
  have iv : IntsAre ys1 (evL x) := Rels.ints hy1
  have il := iv.length
  have il8 : (evL x).length ≤ 8 := by unfold evL; rw [List.length_map]; exact Nat.le_trans (List.length_filter_le _ _) (by simp)
  clear hy1
  k_steps
  refine Stop.mk ?_
  refine LCt.Assign_ListComp_T (F₀ := by k_asm) (by rfl) (by with_unfolding_all rfl) (by with_unfolding_all rfl) (by decide) (by rfl) (by decide) (by rfl) (by rfl) (by rfl) ?_
  k_steps
  refine Stop.mk ?_
  refine LCt.CompSrcT.range (by rfl) (by k_asm) (by k_asm) (by assumption) (by first | decide | rfl) (n := 8) (by first | rfl | decide) (by rw [sizeLine_eq]; omega) ?_
  intro g2
  refine rest_test (fun i => decide (at0 x i = 34)) (fun i y => ∃ t, y = .int (i : Int) t) trivial ?_ ?_ ?_
  · rintro i v I oI C oC' D m₂ ys h3 tk3 E' hi ⟨t3, rfl⟩ hC hx' F3 N3
    rw [Int.zero_add] at hx'
    k_steps
    exact TestEnd.mk (by rw [item_at0 (by omega), eq_quote]) (by k_asm) (by k_asm)
  · rintro i v I oI C oC' D m₂ ys h3 tk3 E' hi hb ⟨t3, rfl⟩ hC hx' F3 N3
    rw [Int.zero_add] at hx'
    k_steps
    exact EltEnd.mk ⟨_, rfl⟩ (by k_asm) (by k_asm)
  intro ys2 hy2 D2 h5 tk5 F5 N5 off5
  have iq : IntsAre ys2 (plainR x).q := Rels.ints hy2
  clear hy2
  k_steps
  refine Stop.mk ?_
  refine LCt.Assign_ListComp_T (F₀ := by k_asm) (by rfl) (by with_unfolding_all rfl) (by with_unfolding_all rfl) (by decide) (by rfl) (by decide) (by rfl) (by rfl) (by rfl) ?_
  k_steps
  refine Stop.mk ?_
  refine LCt.CompSrcT.range (by rfl) (by k_asm) (by k_asm) (by assumption) (by first | decide | rfl) (n := 8) (by first | rfl | decide) (by rw [sizeLine_eq]; omega) ?_
  intro g3
  refine rest_test (fun i => decide (at0 x i = 44)) (fun i y => ∃ t, y = .int (i : Int) t) trivial ?_ ?_ ?_
  · rintro i v I oI C oC' D m₂ ys h3 tk3 E' hi ⟨t3, rfl⟩ hC hx' F3 N3
    rw [Int.zero_add] at hx'
    k_steps
    exact TestEnd.mk (by rw [item_at0 (by omega), eq_comma]) (by k_asm) (by k_asm)
  · rintro i v I oI C oC' D m₂ ys h3 tk3 E' hi hb ⟨t3, rfl⟩ hC hx' F3 N3
    rw [Int.zero_add] at hx'
    k_steps
    exact EltEnd.mk ⟨_, rfl⟩ (by k_asm) (by k_asm)
  intro ys3 hy3 D3 h6 tk6 F6 N6 off6
  have im : IntsAre ys3 (plainR x).m := Rels.ints hy3
  clear hy3
  k_steps
  refine Stop.mk ?_
  refine LCt.ListComp_T (F₀ := by k_asm) (by with_unfolding_all rfl) (by decide) (by rfl) (by decide) (by rfl) ?_
  k_steps
  refine Stop.mk ?_
  refine LCt.CompSrcT.ledger (its := ys1.toArray) (k := ys1.length) (by rfl) (by k_asm) (by k_asm) (.tail _ (.tail _ (.head _))) (by rw [List.size_toArray, sizeLine_eq]; omega) ?_
  intro g4
  refine rest_test (fun i => decide (at0 x ((evL x).getD i 0).toNat = 34)) (fun i y => ∃ t, y = .int ((evL x).getD i 0) t) (.inr ⟨_, .tail _ (.tail _ (.head _)), rfl, _, rfl⟩) ?_ ?_ ?_
  · rintro i v I oI C oC' D m₂ ys h3 tk3 E' hi hv hC hx' F3 N3
    have iv : IntsAre ys1 (evL x) := by assumption
    obtain ⟨t3, rfl⟩ := ints_at iv (by simpa using hv)
    have hk := evL_at (x := x) (i := i) (by rw [List.size_toArray] at hi; omega)
    clear hv hi
    generalize (evL x).getD i 0 = kk at *
    have hk0 := hk.1
    have hk1 := hk.2
    k_steps
    exact TestEnd.mk (by rw [item_int hk.1 (by omega), eq_quote]) (by k_asm) (by k_asm)
  · rintro i v I oI C oC' D m₂ ys h3 tk3 E' hi hb hv hC hx' F3 N3
    have iv : IntsAre ys1 (evL x) := by assumption
    obtain ⟨t3, rfl⟩ := ints_at iv (by simpa using hv)
    k_steps
    exact EltEnd.mk ⟨_, rfl⟩ (by k_asm) (by k_asm)
  intro ys4 hy4 D4 h7 tk7 F7 N7 off7
  have ic : IntsAre ys4 (plainR x).c := by
    have := Rels.ints hy4
    rw [List.size_toArray, il] at this
    rwa [filter_range (evL x) (fun k => decide (at0 x k.toNat = 34))] at this
  clear hy4
  k_steps
  refine Stop.mk ?_
  refine LCt.ListComp_T (F₀ := by k_asm) (by with_unfolding_all rfl) (by decide) (by rfl) (by decide) (by rfl) ?_
  k_steps
  refine Stop.mk ?_
  refine LCt.CompSrcT.ledger (its := ys1.toArray) (k := ys1.length) (by rfl) (by k_asm) (by k_asm) (.tail _ (.tail _ (.tail _ (.head _)))) (by rw [List.size_toArray, sizeLine_eq]; omega) ?_
  intro g5
  refine rest_test (fun i => decide (at0 x ((evL x).getD i 0).toNat = 92)) (fun i y => ∃ t, y = .int ((evL x).getD i 0) t) (.inr ⟨_, .tail _ (.tail _ (.tail _ (.head _))), rfl, _, rfl⟩) ?_ ?_ ?_
  · rintro i v I oI C oC' D m₂ ys h3 tk3 E' hi hv hC hx' F3 N3
    have iv : IntsAre ys1 (evL x) := by assumption
    obtain ⟨t3, rfl⟩ := ints_at iv (by simpa using hv)
    have hk := evL_at (x := x) (i := i) (by rw [List.size_toArray] at hi; omega)
    clear hv hi
    generalize (evL x).getD i 0 = kk at *
    have hk0 := hk.1
    have hk1 := hk.2
    k_steps
    exact TestEnd.mk (by rw [item_int hk.1 (by omega), eq_bar]) (by k_asm) (by k_asm)
  · rintro i v I oI C oC' D m₂ ys h3 tk3 E' hi hb hv hC hx' F3 N3
    have iv : IntsAre ys1 (evL x) := by assumption
    obtain ⟨t3, rfl⟩ := ints_at iv (by simpa using hv)
    k_steps
    exact EltEnd.mk ⟨_, rfl⟩ (by k_asm) (by k_asm)
  intro ys5 hy5 D5 h8 tk8 F8 N8 off8
  have ib : IntsAre ys5 (plainR x).b := by
    have := Rels.ints hy5
    rw [List.size_toArray, il] at this
    rwa [filter_range (evL x) (fun k => decide (at0 x k.toNat = 92))] at this
  clear hy5
  k_steps
  rename News _ _ _ _ => N9
  have iq : IntsAre ys2 (plainR x).q := by assumption
  have ic : IntsAre ys4 (plainR x).c := by assumption
  have im : IntsAre ys3 (plainR x).m := by assumption
  have ib : IntsAre ys5 (plainR x).b := by assumption
  refine hret _ _ _ _ _ ⟨_, D2, D4, D3, D5, 0, ys2, ys4, ys3, ys5, ys2.length, ys4.length, ys3.length, ys5.length, rfl, rfl, iq, ic, im, ib⟩ (by k_asm) fun p hp => N9 p ?_
  simp only [List.mem_cons] at hp ⊢
  rcases hp with h | h | h | h | h | h
  · exact .inl h
  · exact .inr (.inr (.inr (.inr (.inl h))))
  · exact .inr (.inr (.inl h))
  · exact .inr (.inr (.inr (.inl h)))
  · exact .inr (.inl h)
  · exact .inr (.inr (.inr (.inr (.inr (.inr (.inr h))))))
end Mine
end
-- part A8
section
open PySem PySem.W PyProof.Rows PyProof.Rows.LCg PyProof.Rows.LCt
namespace Mine
section
variable {w : World} {mean : ExcName → Option Value} {mg mb : Str → Option Value} {r : Addr} {n : Nat} {vs : List Value} {ns : List Int} {x : Int} {t : Tok}
    {dp un : Nat} {gd : Option (List Code)} {cn : Str} {cs : Scope} {a : Addr} {ccd : Value} {cl : List (Str × Addr)} {outer : List Env} {A₀ : Around} {base h₀ : Heap} {L : Addr} {m : Str → Option Value} {s : Shared} {Q E : Value → Shared → Prop} {led : List (Addr × Obj)}
theorem bl_use (hr : (r, listOf vs.toArray n) ∈ led) (hi : IntsAre vs ns) (ok : Row8 ns)
    (B : Below A₀ base outer h₀) (F : Fr h₀ L s.heap m) (X : (hd.heap_39 w.params).In h₀) (N : News h₀ L s.heap led)
    (T : Top hd.view_39 (looseW hd.view_39 [Str.ofString "insort_right", Str.ofString "bisect_right", Str.ofString "bisect_left"]) mean mg mb h₀) (hk : cs.kind = .function)
    (hd : dp + 1 < recursionLimit) (hu : un + 3 < cLine) (ret : ∀ t' h' tk', 0 ≤ bl ns x → bl ns x ≤ ns.length → Fr h₀ L h' m → News h₀ L h' led → Q (.int (bl ns x) t') { s with heap := h', toks := tk' }) :
    wpAny (model PySem.Challenge.rw_pg0132_01.row.prog w) (ktrTop dp un gd cn cs L a ccd cl outer) (call (.ref 41) [.ref r, .int x t]) Q E s := by
  refine Fn.use (fn_bl hr hi ok.len ok.up) B F X N T hk hd hu ?_
  rintro _ _ h' tk' ⟨rfl, t', rfl⟩ F' N'
  exact ret t' h' tk' (bl_nonneg _ _) (bl_le _ _) F' N'
theorem br_use (hr : (r, listOf vs.toArray n) ∈ led) (hi : IntsAre vs ns) (ok : Row8 ns)
    (B : Below A₀ base outer h₀) (F : Fr h₀ L s.heap m) (X : (hd.heap_39 w.params).In h₀) (N : News h₀ L s.heap led)
    (T : Top hd.view_39 (looseW hd.view_39 [Str.ofString "insort_right", Str.ofString "bisect_right", Str.ofString "bisect_left"]) mean mg mb h₀) (hk : cs.kind = .function)
    (hd : dp + 1 < recursionLimit) (hu : un + 3 < cLine) (ret : ∀ t' h' tk', 0 ≤ br ns x → br ns x ≤ ns.length → Fr h₀ L h' m → News h₀ L h' led → Q (.int (br ns x) t') { s with heap := h', toks := tk' }) :
    wpAny (model PySem.Challenge.rw_pg0132_01.row.prog w) (ktrTop dp un gd cn cs L a ccd cl outer) (call (.ref 32) [.ref r, .int x t]) Q E s := by
  refine Fn.use (fn_br hr hi ok.len ok.up ⟨_, .inl ⟨rfl, rfl⟩⟩) B F X N T hk hd hu ?_
  rintro _ _ h' tk' ⟨rfl, t', rfl⟩ F' N'
  exact ret t' h' tk' (br_nonneg _ _) (br_le _ _) F' N'
end
theorem range_succs (l : List Int) : (List.range l.length).map (fun i => l.getD i 0 + 1) = l.map (· + 1) := by
  apply List.ext_getElem?
  intro i
  by_cases h : i < l.length
  · simp [h]
  · simp [h]
theorem parts_at {t : Nat → Nat} {low high : Int} {c g : List Int} {i : Nat} (h : i < c.length + 1) : (partsP t low high c g)[i]? = some (pick t g (([low] ++ List.map (fun x => x + 1) c).getD i 0) ((c ++ [high]).getD i 0)) := by
  unfold partsP
  rw [List.getElem?_map, (List.getElem?_zip_eq_some (z := (([low] ++ List.map (fun x => x + 1) c).getD i 0, (c ++ [high]).getD i 0))).mpr ⟨?_, ?_⟩]
  · rfl
  · have hl : i < (low :: c.map (· + 1)).length := by simpa using h
    show (low :: c.map (· + 1))[i]? = some ((low :: c.map (· + 1)).getD i 0)
    simp only [List.getD, List.getElem?_eq_getElem hl, Option.getD_some]
  · have hl : i < (c ++ [high]).length := by simpa using h
    simp only [List.getD, List.getElem?_eq_getElem hl, Option.getD_some]
theorem begin_at {low : Int} {c : List Int} {i : Nat} (hc : ∀ z ∈ c, 0 ≤ z ∧ z < 8) (hl : 0 ≤ low ∧ low ≤ 8) (h : i < c.length + 1) : 0 ≤ ([low] ++ List.map (fun x => x + 1) c).getD i 0 ∧ ([low] ++ List.map (fun x => x + 1) c).getD i 0 ≤ 8 := by
  have hl' : i < ([low] ++ List.map (fun x => x + 1) c).length := by simp; omega
  have e : ([low] ++ List.map (fun x => x + 1) c).getD i 0 = ([low] ++ List.map (fun x => x + 1) c)[i] := by simp only [List.getD, List.getElem?_eq_getElem hl', Option.getD_some]
  rw [e]
  have hm := List.getElem_mem hl'
  generalize ([low] ++ List.map (fun x => x + 1) c)[i] = z at hm ⊢
  rcases List.mem_append.mp hm with q | q
  · rw [List.mem_singleton.mp q]; exact hl
  · obtain ⟨y, hy, rfl⟩ := List.mem_map.mp q
    have := hc y hy; omega
theorem end_at {high : Int} {c : List Int} {i : Nat} (hc : ∀ z ∈ c, 0 ≤ z ∧ z < 8) (hl : 0 ≤ high ∧ high ≤ 8) (h : i < c.length + 1) : 0 ≤ (c ++ [high]).getD i 0 ∧ (c ++ [high]).getD i 0 ≤ 8 := by
  have hl' : i < (c ++ [high]).length := by simp; omega
  have e : (c ++ [high]).getD i 0 = (c ++ [high])[i] := by simp only [List.getD, List.getElem?_eq_getElem hl', Option.getD_some]
  rw [e]
  have hm := List.getElem_mem hl'
  generalize (c ++ [high])[i] = z at hm ⊢
  rcases List.mem_append.mp hm with q | q
  · have := hc z q; omega
  · rw [List.mem_singleton.mp q]; exact hl
theorem join_ones : ∀ l : List Nat, Str.join (Str.ofString "") (l.map fun c => (⟨#[c]⟩ : Str)) = mkS l
  | [] => rfl
  | [c] => rfl
  | c :: d :: r => by
    have ih := join_ones (d :: r)
    show (⟨#[c]⟩ : Str) ++ Str.ofString "" ++ Str.join (Str.ofString "") ((d :: r).map fun c => (⟨#[c]⟩ : Str)) = mkS (c :: d :: r)
    rw [ih]
    refine str_ext ?_
    have e : (Str.ofString "").cps = #[] := rfl
    rw [Str.cps_append, Str.cps_append, e]
    simp [mkS]
theorem sum_ones {α : Type} (f : α → Nat) : ∀ l : List α, ((l.map fun c => (⟨#[f c]⟩ : Str)).map (·.length)).sum = l.length
  | [] => rfl
  | a :: r => by
    have ih := sum_ones f r
    simp only [List.map_cons, List.sum_cons, List.length_cons]
    rw [ih]
    show 1 + r.length = r.length + 1
    omega
theorem pick_len (t : Nat → Nat) (g : List Int) (b e : Int) : (pick t g b e).length ≤ (e - b).toNat := by
  unfold pick
  rw [List.length_map]
  exact Nat.le_trans (List.length_filter_le _ _) (by rw [List.length_range]; exact Nat.le_refl _)
theorem part_len {t : Nat → Nat} {low high : Int} {c g : List Int} (hc : ∀ z ∈ c, 0 ≤ z ∧ z < 8) (hl : 0 ≤ low ∧ low ≤ 8) (hh : 0 ≤ high ∧ high ≤ 8) : ∀ p ∈ partsP t low high c g, p.length ≤ 8 := by
  intro p hp
  obtain ⟨i, hi, rfl⟩ := List.mem_iff_getElem.mp hp
  have hlen : (partsP t low high c g).length = c.length + 1 := by unfold partsP; simp
  have hi' : i < c.length + 1 := by omega
  have e := parts_at (t := t) (low := low) (high := high) (g := g) hi'
  rw [List.getElem?_eq_getElem hi] at e
  rw [Option.some.inj e]
  have h1 := begin_at hc hl hi'
  have h2 := end_at hc hh hi'
  have := pick_len t g (([low] ++ List.map (fun x => x + 1) c).getD i 0) ((c ++ [high]).getD i 0)
  omega
theorem last_text {l : List (List Nat)} (h : l ≠ []) : (l.map mkS).getD (-1 + (((l.map mkS).length : Nat) : Int)).toNat Str.empty = mkS (l.getLastD []) := by
  rcases List.eq_nil_or_concat l with q | ⟨a, z, q⟩
  · exact absurd q h
  · rw [List.concat_eq_append] at q
    subst q
    have e : (-1 + ((((a ++ [z]).map mkS).length : Nat) : Int)).toNat = (a.map mkS).length := by simp; omega
    rw [e, List.map_append]
    simp
theorem mkS_empty (l : List Nat) : (mkS l == Str.ofString "") = decide (l = []) := by
  by_cases h : l = []
  · subst h; rfl
  · rw [decide_eq_false h]
    refine beq_eq_false_iff_ne.mpr fun e => h ?_
    have q := congrArg (fun x : Str => x.cps.toList) e
    exact q
theorem strs_last : ∀ {vs : List Value} {l : List (List Nat)}, StrsAre vs (l.map mkS) → l ≠ [] → ∃ y, vs = vs.dropLast ++ [y] ∧ StrsAre vs.dropLast (l.dropLast.map mkS)
  | _, [], _, h => absurd rfl h
  | _, [a], .cons _ t .nil, _ => ⟨.str (mkS a) t, rfl, .nil⟩
  | _, a :: b :: r, .cons _ t (.cons _ u h'), _ => by
    obtain ⟨y, h1, h2⟩ := strs_last (l := b :: r) (.cons _ u h') (by simp)
    exact ⟨y, congrArg (List.cons (Value.str (mkS a) t)) h1, .cons _ t h2⟩
theorem filled8 (P : Params) : (hd.heap_39 P = hd.heap_39 P ∧ PySem.Challenge.rw_pg0132_01.foot = PySem.Challenge.rw_pg0132_01.foot) ∨ True := by
  k_fill
  exact Or.inr trivial
local macro_rules | `(tactic| is_list) => `(tactic| exact News.isList (by k_asm) (by k_mem))
local macro_rules | `(tactic| k_mem) => `(tactic| assumption)
local macro_rules | `(tactic| k_all) => `(tactic| with_reducible assumption)
local macro_rules | `(tactic| walk_at "eval Name") => `(tactic| (k_here; k_dflt (refine' nameX_L ?k1 ?k2 ?_; (case k1 => k_asm); (case k2 => first | exact rfl | assumption); k_whole)))
local macro_rules | `(tactic| walk_at "exec While Compare") => `(tactic| (k_here; refine Stop.out ?_))
local macro_rules | `(tactic| walk_at "call ref") => `(tactic| (k_here; (with_reducible show wpAny _ _ (call (Value.ref 41) _) _ _ _); k_dflt (refine' bl_use ?c1 ?c2 ?c3 ?k1 ?k2 ?k3 ?k4 ?k5 ?kK ?kd ?ku ?_; (case k1 => k_asm); (case k2 => k_asm); (case k3 => k_asm); (case k4 => k_asm); (case k5 => k_asm); (case kK => exact rfl); (case c1 => k_mem); (case c2 => assumption); (case c3 => assumption); (case kd => omega); (case ku => omega); k_whole); intro t' h' tk' p0' p1' F' N'; (try k_sweep)))
local macro_rules | `(tactic| walk_at "call ref") => `(tactic| (k_here; (with_reducible show wpAny _ _ (call (Value.ref 32) _) _ _ _); k_dflt (refine' br_use ?c1 ?c2 ?c3 ?k1 ?k2 ?k3 ?k4 ?k5 ?kK ?kd ?ku ?_; (case k1 => k_asm); (case k2 => k_asm); (case k3 => k_asm); (case k4 => k_asm); (case k5 => k_asm); (case kK => exact rfl); (case c1 => k_mem); (case c2 => assumption); (case c3 => assumption); (case kd => omega); (case ku => omega); k_whole); intro t' h' tk' p0' p1' F' N'; (try k_sweep)))
local macro_rules | `(tactic| walk_at "exec For Tuple Call") => `(tactic| (k_here; refine Stop.out ?_))
local macro_rules | `(tactic| walk_at "call type:zip") => `(tactic| (k_here; refine Stop.out ?_))
local macro_rules | `(tactic| walk_at "call builtin:str.join") => `(tactic| (k_here; refine Stop.out ?_))
local macro_rules | `(tactic| walk_at "call builtin:list.append") => `(tactic| (k_here; refine Stop.out ?_))
local macro_rules | `(tactic| walk_at "call builtin:list.pop") => `(tactic| (k_here; refine Stop.out ?_))
local macro_rules | `(tactic| walk_at "call builtin:str.strip") => `(tactic| (k_here; (refine' SCL.stripChars ?_ ?z; (case z => (rw [mkS_len, sizeLine_eq]; omega))); intro _ _ _))
local macro_rules | `(tactic| walk_at "CompSrcT") => `(tactic| (k_here; refine Stop.out ?_))
local macro_rules | `(tactic| walk_at "eval ListComp") => `(tactic| (k_here; refine Stop.out ?_))
set_option maxRecDepth 100000 in
set_option maxHeartbeats 8000000 in
theorem fn_told {w : World} {mean : ExcName → Option Value} {mg mb : Str → Option Value} {led : List (Addr × Obj)} {R q c m b : Addr} {nR nq nc nm nb : Nat} {vq vc vm vb : List Value} {r : R4} {x : Str} {tx tl th : Tok} {low high : Nat}
    (hR : (R, listOf #[.ref q, .ref c, .ref m, .ref b] nR) ∈ led) (hq : (q, listOf vq.toArray nq) ∈ led) (hc : (c, listOf vc.toArray nc) ∈ led) (hm : (m, listOf vm.toArray nm) ∈ led) (hb : (b, listOf vb.toArray nb) ∈ led)
    (iq : IntsAre vq r.q) (ic : IntsAre vc r.c) (im : IntsAre vm r.m) (ib : IntsAre vb r.b) (ok : r.Ok) (hx : x.cps.toList.length = 8) (hlh : low ≤ high) (hh : high ≤ 8) :
    Fn w mean mg mb 72 [.str x tx, .ref R, .int low tl, .int high th] 2 6 led (fun v led' => ∃ l vs n spot c g, v = .ref l ∧ led' = (l, listOf (List.toArray vs) n) :: led ∧ TR r low high spot c g ∧ ¬ spot < (high : Int) ∧
      StrsAre vs ((dropE (partsP (at0 x) low high c g)).map fun p => Txt.stripChars (mkS p) (Str.ofString " "))) := by
  refine' Fn.enterC [(Str.ofString "text", .str x tx), (Str.ofString "rows", .ref R), (Str.ofString "low", .int low tl), (Str.ofString "high", .int high th)] ?ho ?hc ?hb ?h1 ?h2 ?h3 ?h4 ?h5 ?_
  case ho => k_is
  case hc => k_is
  case hb => exact fun s X => kp_binds X (fun _ => by with_unfolding_all rfl)
  case h1 => exact rfl
  case h2 => decide +kernel
  case h3 => exact rfl
  case h4 => exact rfl
  case h5 => exact rfl
  intro dp un gd outer A₀ base g L s Q cells B F X N Y hlt T hd hu hret hnext
  obtain ⟨oG, oT, rfl, hoG, hoT⟩ := CellsAre.two Y
  have hxs : x.cps.size = 8 := by rw [← Array.length_toList]; exact hx
  have hxl : x.length = 8 := hxs
  clear Y
  change News g L s.heap ((L + 2, oG) :: (L + 1, oT) :: led) at N
  change oT.data = .cell (some (.str x tx)) at hoT
  change oG.data = .cell none at hoG
  change Fr g L s.heap (fun y => if y = Str.ofString "high" then some (.int high th) else if y = Str.ofString "low" then some (.int low tl) else if y = Str.ofString "rows" then some (.ref R) else none) at F
  have hR' := List.mem_cons_of_mem (L + 2, oG) (List.mem_cons_of_mem (L + 1, oT) hR)
  have hne2 : ∀ p ∈ (L + 1, oT) :: led, p.1 ≠ L + 2 := by
    intro p hp
    rcases List.mem_cons.mp hp with e | h
    · rw [e]; exact Nat.ne_of_lt (Nat.lt_succ_self _)
    · exact Nat.ne_of_lt (Nat.lt_trans (hlt p h) (Nat.lt_add_of_pos_right (by decide)))
  have okq := ok.q
  have okc := ok.c
  have okm := ok.m
  have okb := ok.b
  have oklq := okq.len
  have oklc := okc.len
  have oklm := okm.len
  have oklb := okb.len
  k_steps
  rename Fr _ _ _ _ => F1
  rename News _ _ _ _ => N1
  rename_i lc _ l1 lg _ l2 lt _ l3 _ _ _ oG1 hG1 _
  refine Stop.mk ?_
  refine While_inv2 (fun k mm nx => ∃ (spot : Int) (ts : Tok) (ca ga : Addr) (vcs vgs : List Value) (ncs ngs : Nat) (cs gs : List Int) (oG' : Obj), nx = (ga, listOf vgs.toArray ngs) :: (ca, listOf vcs.toArray ncs) :: (L + 2, oG') :: (L + 1, oT) :: led ∧
      oG'.data = .cell (some (.ref ga)) ∧ IntsAre vcs cs ∧ IntsAre vgs gs ∧ TR r low high spot cs gs ∧ L + 2 < ca ∧ L + 2 < ga ∧
      mm (Str.ofString "quotes") = some (.ref q) ∧ mm (Str.ofString "closers") = some (.ref c) ∧ mm (Str.ofString "commas") = some (.ref m) ∧ mm (Str.ofString "bars") = some (.ref b) ∧ mm (Str.ofString "cuts") = some (.ref ca) ∧
      mm (Str.ofString "spot") = some (.int spot ts) ∧ mm (Str.ofString "low") = some (.int low tl) ∧ mm (Str.ofString "high") = some (.int high th) ∧ k = ((high : Int) - spot).toNat)
    (news := (lg, listOf #[] 0) :: (lc, listOf #[] 0) :: (L + 2, oG1) :: (L + 1, oT) :: led) F1 (fun p hp => N1 p (.tail _ hp))
    ⟨_, _, lc, lg, [], [], 0, 0, [], [], oG1, rfl, hG1, .nil, .nil, .start, l1.1, l2.2.1, rfl, rfl, rfl, rfl, rfl, rfl, rfl, rfl, rfl⟩ ?_
  clear F1 N1
  rintro k m₁ nx h₁ tk₁ F1 N1 ⟨spot, ts, ca, ga, vcs, vgs, ncs, ngs, cs, gs, oG', rfl, hG', ics, igs, tr, hca, hga, mq, mc, mm, mb', mcu, ms, ml, mh, rfl⟩
  replace hca := ltN hca
  replace hga := ltN hga
  have trk := tr.ok ok (by omega)
  have t1 := trk.lo
  have t2 := trk.hi
  have t3 := trk.cl
  have t4 := trk.gl
  have csl := ics.length
  have gsl := igs.length
  k_steps
  · rename _ ∈ List.take 1 (List.drop (bl r.q spot).toNat r.q) ++ [_] => hm1
    rename ∀ a, a ∈ List.take 1 (List.drop (bl r.q spot).toNat r.q) ++ [_] → _ ≤ a => hm2
    have e1 := nextOr_eq hm1 hm2
    change _ = opn r spot high at e1
    clear hm1 hm2
    subst e1
    rename _ ∈ List.take 1 (List.drop (br r.c (opn r spot high)).toNat r.c) ++ [_] => hm1
    rename ∀ a, a ∈ List.take 1 (List.drop (br r.c (opn r spot high)).toNat r.c) ++ [_] → _ ≤ a => hm2
    have e1 := nextOr_eq hm1 hm2
    change _ = cls r (opn r spot high) high at e1
    clear hm1 hm2
    subst e1
    rename IntsAre _ (cs ++ _) => hcs'
    rename IntsAre _ (gs ++ _) => hgs'
    rw [between_eq] at hcs' hgs'
    rename Obj.data _ = Data.cell (some _) => hcell
    rename News _ _ _ _ => N9
    have hslt : spot < (high : Int) := by assumption
    refine' ws2 ((high : Int) - (mx spot (cls r (opn r spot high) high) + 1)).toNat ?f ?n ?j ?l
    case f => assumption
    case j => exact ⟨_, _, _, _, _, _, 0, 0, _, _, _, rfl, hcell, hcs', hgs', tr.step hslt, (by refine ltN ?_; omega), (by refine ltN ?_; omega), mq, mc, mm, mb', rfl, rfl, ml, mh, rfl⟩
    case n =>
      intro p hp
      refine N9 p ?_
      simp only [List.mem_cons] at hp ⊢
      rcases hp with h | h | h | h | h <;> (repeat (first | exact h | exact Or.inl h | refine Or.inr ?_))
    case l => have := mx_spec spot (cls r (opn r spot high) high); omega
  · rename Fr _ _ _ _ => F2
    rename News _ _ _ _ => N2
    have hge : ¬ spot < (high : Int) := by assumption
    rename_i lp _ l9 _
    have offp : ∀ p ∈ (ga, listOf vgs.toArray ngs) :: (L + 2, oG') :: (L + 1, oT) :: led, p.1 ≠ lp := by
      intro p hp
      simp only [List.mem_cons] at hp
      rcases hp with h | h | h | h
      · rw [h]; exact Nat.ne_of_lt l9.1
      · rw [h]; exact Nat.ne_of_lt l9.2.2.1
      · rw [h]; exact Nat.ne_of_lt l9.2.2.2.1
      · exact Nat.ne_of_lt (Nat.lt_trans (hlt p h) (Nat.lt_trans (Nat.lt_add_of_pos_right (by decide)) l9.2.2.1))
    refine Stop.mk (For_turns F2 ?_)
    k_steps
    refine Stop.mk ?_
    refine LCg.ListComp_U (F₀ := by k_asm) (by with_unfolding_all rfl) (by decide) (by rfl) (by decide) (by rfl) ?_
    refine' nameX_L ?na ?nb ?_
    case na => k_asm
    case nb => exact mcu
    refine LCg.CompSrc.ledger (its := vcs.toArray) (k := ncs) rfl (by k_asm) (by k_asm) (by k_mem) ?_ ?_
    · rw [List.size_toArray, sizeLine_eq]; omega
    intro g1
    refine rest_map (fun i y => ∃ t, y = .int (cs.getD i 0 + 1) t) ?_ ?_ ?_
    · exact .inr ⟨_, by k_mem, rfl, _, rfl⟩
    · intro i v I oI C oC D m₂ ys h3 tk3 E' hi hv hC hx' F3 N3
      obtain ⟨t3, rfl⟩ := ints_at ics (by simpa using hv)
      k_steps
      exact EltEnd.mk ⟨_, rfl⟩ (by k_asm) (by k_asm)
    intro ys1 hy1 D1 h4 tk4 F4 N4 off4
    have iys : IntsAre ys1 (cs.map (· + 1)) := by
      have q := Rels.ints (g := fun i => cs.getD i 0 + 1) hy1
      rw [List.size_toArray, csl] at q
      rwa [range_succs] at q
    have iyl := iys.length
    rw [List.length_map] at iyl
    have cml : (cs.map (· + 1)).length = cs.length := List.length_map ..
    clear hy1
    k_steps
    rename Fr _ _ _ _ => F5
    rename News _ _ _ _ => N5
    rename_i Z1 ws1 _ iz1 q1 _ _ q2 Z2 ws2 _ iz2 q3
    have z1l := iz1.length
    have z2l := iz2.length
    have hlq : ∀ p ∈ led, p.1 < L := hlt
    have off : ∀ Z : Addr, L + 2 < Z → lp < Z → ga < Z → ∀ p ∈ (lp, listOf (#[] : Array Value) 0) :: (ga, listOf vgs.toArray ngs) :: (L + 2, oG') :: (L + 1, oT) :: led, p.1 ≠ Z := by
      intro Z h1 h2 h3 p hp
      simp only [List.mem_cons] at hp
      rcases hp with h | h | h | h | h
      · rw [h]; exact Nat.ne_of_lt h2
      · rw [h]; exact Nat.ne_of_lt h3
      · rw [h]; exact Nat.ne_of_lt h1
      · rw [h]; exact Nat.ne_of_lt (Nat.lt_trans (Nat.lt_succ_self _) h1)
      · exact Nat.ne_of_lt (Nat.lt_trans (hlt p h) (Nat.lt_trans (Nat.lt_add_of_pos_right (by decide)) h1))
    refine Stop.mk ?_
    refine zip_lists (xs := ws1) (ys := ws2) (n1 := 0) (n2 := 0) (all := _) (news := (lp, listOf #[] 0) :: (ga, listOf vgs.toArray ngs) :: (L + 2, oG') :: (L + 1, oT) :: led)
      (fun i mm nx => ∃ (vps : List Value) (nps : Nat), nx = (lp, listOf vps.toArray nps) :: (ga, listOf vgs.toArray ngs) :: (L + 2, oG') :: (L + 1, oT) :: led ∧
        StrsAre vps (((partsP (at0 x) low high cs gs).take i).map mkS) ∧ mm (Str.ofString "parts") = some (.ref lp)) rfl F5 N5 (by k_mem) (by k_mem) ?_ ?_ ?_ ?_ ?_ ?_
    · intro p hp
      simp only [List.mem_cons] at hp ⊢
      rcases hp with h | h | h | h | h <;> (repeat (first | exact h | exact Or.inl h | refine Or.inr ?_))
    · exact off Z1 (by refine ltN ?_; omega) (by refine ltN ?_; omega) (by refine ltN ?_; omega)
    · exact off Z2 (by refine ltN ?_; omega) (by refine ltN ?_; omega) (by refine ltN ?_; omega)
    · exact ⟨[], 0, rfl, .nil, rfl⟩
    · rintro i vx vy T' m₂ nx h6 tk6 own hvx hvy hadr hoff ⟨vps, nps, rfl, hps, mpa⟩ hT F6 N6
      obtain ⟨tb, rfl⟩ := ints_at iz1 hvx
      obtain ⟨te, rfl⟩ := ints_at iz2 hvy
      change Fr g L h6 _ at F6
      change News g L h6 _ at N6
      have hil : i < cs.length + 1 := by
        have q := (List.getElem?_eq_some_iff.mp hvx).1
        rw [z1l] at q
        simpa using q
      have hpart : (partsP (at0 x) low high cs gs)[i]? = some (pick (at0 x) gs (([(low : Int)] ++ List.map (fun x => x + 1) cs).getD i 0) ((cs ++ [(high : Int)]).getD i 0)) := parts_at hil
      have hbb : 0 ≤ ([(low : Int)] ++ List.map (fun x => x + 1) cs).getD i 0 ∧ ([(low : Int)] ++ List.map (fun x => x + 1) cs).getD i 0 ≤ 8 := begin_at (fun z hz => okm.at8 z (trk.cm z hz)) (by omega) hil
      have hee : 0 ≤ (cs ++ [(high : Int)]).getD i 0 ∧ (cs ++ [(high : Int)]).getD i 0 ≤ 8 := end_at (fun z hz => okm.at8 z (trk.cm z hz)) (by omega) hil
      generalize ([(low : Int)] ++ List.map (fun x => x + 1) cs).getD i 0 = bb at *
      generalize (cs ++ [(high : Int)]).getD i 0 = ee at *
      have hb0 := hbb.1
      have hb8 := hbb.2
      have he0 := hee.1
      have he8 := hee.2
      k_steps
      refine Stop.mk ?_
      refine LCt.ListComp_T (F₀ := by k_asm) (by with_unfolding_all rfl) (by decide) (by rfl) (by decide) (by rfl) ?_
      k_steps
      refine Stop.mk ?_
      refine LCt.CompSrcT.range (by rfl) (by k_asm) (by k_asm) (by assumption) ?_ (n := (ee - bb).toNat) ?_ (by rw [sizeLine_eq]; omega) ?_
      · exact small_one (by omega) (by omega) (by omega) (by omega)
      · unfold Builtin.Range.rangeSize
        rw [if_pos (by decide)]
        split <;> omega
      intro g2
      refine rest_test (fun (j : Nat) => !gs.any fun z => z == bb + (j : Int)) (fun (j : Nat) y => ∃ t, y = .str ⟨#[at0 x (bb + (j : Int)).toNat]⟩ t) trivial ?_ ?_ ?_
      · rintro j v I oI C oC' D m₃ ys h7 tk7 E' hj ⟨t7, rfl⟩ hC hx' F7 N7
        k_steps
        exact TestEnd.mk rfl (by k_asm) (by k_asm)
      · rintro j v I oI C oC' D m₃ ys h7 tk7 E' hj hb' ⟨t7, rfl⟩ hC hx' F7 N7
        k_steps
        exact EltEnd.mk ⟨_, by rw [item_int (by omega) (by omega)]⟩ (by k_asm) (by k_asm)
      intro ys2 hy2 D2 h8 tk8 F8 N8 off8
      have hst2 := Rels.strs (g := fun (j : Nat) => (⟨#[at0 x (bb + (j : Int)).toNat]⟩ : Str)) hy2
      clear hy2
      k_steps
      have hfl : ((List.range (ee - bb).toNat).filter (fun (j : Nat) => !gs.any fun z => z == bb + (j : Int))).length ≤ 8 := Nat.le_trans (List.length_filter_le _ _) (by rw [List.length_range]; omega)
      refine Stop.mk (join_listW (News.isList (by k_asm) (.head _)) (by simpa using hst2) (by decide) ?_ ?_)
      · rw [sum_ones, List.length_map]; omega
      intro t9 k9
      have ej : Txt.join (Str.ofString "") (((List.range (ee - bb).toNat).filter (fun (j : Nat) => !gs.any fun z => z == bb + (j : Int))).map fun (j : Nat) => (⟨#[at0 x (bb + (j : Int)).toNat]⟩ : Str)) = mkS (pick (at0 x) gs bb ee) := by
        have q := join_ones (pick (at0 x) gs bb ee)
        unfold pick at q ⊢
        rw [List.map_map] at q
        exact (PySem.StrLaws.glued_eq_join _ _).trans q
      rw [ej]
      k_steps
      have N9 : News g L h8 ((lp, listOf vps.toArray nps) :: (((ga, listOf vgs.toArray ngs) :: (L + 2, oG') :: (L + 1, oT) :: led) ++ own)) := fun p hp => N8 p (.tail _ hp)
      have hpl : vps.length ≤ 1000 := by
        rw [hps.length, List.length_map, List.length_take]; omega
      refine Stop.mk (append_K (its := vps.toArray) (n := nps) F8 N9 (Upd.head fun p hp => ?_) ?_ ?_)
      · rcases List.mem_append.mp hp with q | q
        · exact offp p q
        · exact OwnOff.ne hoff (.head _) p q
      · intro h9 F9 N9
        rw [List.push_toArray] at N9
        k_steps
        refine' invEnd (nx := (lp, listOf (vps ++ [Value.str (mkS (pick (at0 x) gs bb ee)) t9]).toArray (nps + 1)) :: (ga, listOf vgs.toArray ngs) :: (L + 2, oG') :: (L + 1, oT) :: led) ?ef ?en ?ea ?ej
        case ef => assumption
        case en => assumption
        case ea => rfl
        case ej => exact ⟨_, _, rfl, by rw [List.take_add_one, hpart, List.map_append]; exact KStt.strs_snoc hps, mpa⟩
      · rw [List.size_toArray, sizeLine_eq]; omega
    · rintro m₂ nx h6 tk6 ⟨vps, nps, rfl, hps, mpa⟩ F6 N6
      change Fr g L h6 _ at F6
      change News g L h6 _ at N6
      have hml : min ws1.length ws2.length = cs.length + 1 := by rw [z1l, z2l]; simp
      have hpl : (partsP (at0 x) low high cs gs).length = cs.length + 1 := by unfold partsP; simp
      rw [hml, ← hpl, List.take_length] at hps
      have hne : partsP (at0 x) low high cs gs ≠ [] := fun q => by rw [q] at hpl; cases hpl
      have hp8 : ∀ p ∈ partsP (at0 x) low high cs gs, p.length ≤ 8 := part_len (fun z hz => okm.at8 z (trk.cm z hz)) (by omega) (by omega)
      generalize hPP : partsP (at0 x) low high cs gs = PP at *
      have hvl : vps.length = PP.length := by rw [hps.length, List.length_map]
      k_steps
      · rename (List.getD _ _ _ == _) = true => hemp
        rw [last_text hne, mkS_empty] at hemp
        have hlast : PP.getLastD [] = [] := of_decide_eq_true hemp
        have hdr : PP.dropLast = dropE PP := by unfold dropE; rw [if_pos hlast]
        obtain ⟨y, hy, hds⟩ := strs_last hps hne
        have hdl : vps.dropLast.length = PP.dropLast.length := by rw [List.length_dropLast, List.length_dropLast, hvl]
        have hdl2 : PP.dropLast.length = PP.length - 1 := List.length_dropLast
        have hd8 : ∀ i, (PP.dropLast.getD i []).length ≤ 8 := by
          intro i
          by_cases h : i < PP.dropLast.length
          · have e : PP.dropLast.getD i [] = PP.dropLast[i] := by simp only [List.getD, List.getElem?_eq_getElem h, Option.getD_some]
            rw [e]; exact hp8 _ (List.dropLast_subset _ (List.getElem_mem h))
          · have e : PP.dropLast.getD i [] = [] := by simp only [List.getD, List.getElem?_eq_none (Nat.le_of_not_lt h), Option.getD_none]
            rw [e]; exact Nat.zero_le _
        refine Stop.mk (kl_pop (its := vps.toArray) (n := nps) (p := vps.dropLast) (y := y) F6 N6 ?_ (Upd.head offp) ?_ ?_)
        · have e := kpa_last y vps.dropLast
          rw [← hy] at e
          exact e
        · show vps.length ≤ _; rw [sizeLine_eq]; omega
        intro h7 F7 N7
        k_steps
        refine Stop.mk ?_
        refine LCg.ListComp_U (F₀ := by k_asm) (by with_unfolding_all rfl) (by decide) (by rfl) (by decide) (by rfl) ?_
        refine' nameX_L ?na ?nb ?_
        case na => k_asm
        case nb => exact mpa
        refine LCg.CompSrc.ledger (its := vps.dropLast.toArray) (k := nps + 1) (news := (lp, listOf vps.dropLast.toArray (nps + 1)) :: (ga, listOf vgs.toArray ngs) :: (L + 2, oG') :: (L + 1, oT) :: led) rfl (by k_asm) (by k_asm) (.head _) ?_ ?_
        · rw [List.size_toArray, sizeLine_eq]; omega
        intro g1
        refine rest_map (fun i y => ∃ t, y = .str (Txt.stripChars (mkS (PP.dropLast.getD i [])) (Str.ofString " ")) t) ?_ ?_ ?_
        · exact .inr ⟨_, .head _, rfl, _, rfl⟩
        · intro i v I oI C oC D m₃ ys h8 tk8 E' hi hv hC hx' F8 N8
          obtain ⟨t3, rfl⟩ := strs_at hds (by simpa using hv)
          have hl8 := hd8 i
          k_steps
          exact EltEnd.mk ⟨_, rfl⟩ (by k_asm) (by k_asm)
        · intro ys hys D h8 tk8 F8 N8 off8
          refine hret _ _ _ _ _ ⟨D, ys, ys.length, spot, cs, gs, rfl, rfl, tr, hge, ?_⟩ F8 fun p hp => N8 p ?_
          · rw [hPP, ← hdr]
            exact Rels.all hys (by rw [List.size_toArray]; omega)
          · rcases List.mem_cons.mp hp with e | q
            · rw [e]; exact .head _
            · exact .tail _ (.tail _ (.tail _ (.tail _ (.tail _ q))))
      · rename (List.getD _ _ _ == _) = false => hemp
        rw [last_text hne, mkS_empty] at hemp
        have hlast : ¬ PP.getLastD [] = [] := of_decide_eq_false hemp
        have hdr : PP = dropE PP := by unfold dropE; rw [if_neg hlast]
        have hd8 : ∀ i, (PP.getD i []).length ≤ 8 := by
          intro i
          by_cases h : i < PP.length
          · have e : PP.getD i [] = PP[i] := by simp only [List.getD, List.getElem?_eq_getElem h, Option.getD_some]
            rw [e]; exact hp8 _ (List.getElem_mem h)
          · have e : PP.getD i [] = [] := by simp only [List.getD, List.getElem?_eq_none (Nat.le_of_not_lt h), Option.getD_none]
            rw [e]; exact Nat.zero_le _
        refine Stop.mk ?_
        refine LCg.ListComp_U (F₀ := by k_asm) (by with_unfolding_all rfl) (by decide) (by rfl) (by decide) (by rfl) ?_
        refine' nameX_L ?na ?nb ?_
        case na => k_asm
        case nb => exact mpa
        refine LCg.CompSrc.ledger (its := vps.toArray) (k := nps) (news := (lp, listOf vps.toArray nps) :: (ga, listOf vgs.toArray ngs) :: (L + 2, oG') :: (L + 1, oT) :: led) rfl (by k_asm) (by k_asm) (.head _) ?_ ?_
        · rw [List.size_toArray, sizeLine_eq]; omega
        intro g1
        refine rest_map (fun i y => ∃ t, y = .str (Txt.stripChars (mkS (PP.getD i [])) (Str.ofString " ")) t) ?_ ?_ ?_
        · exact .inr ⟨_, .head _, rfl, _, rfl⟩
        · intro i v I oI C oC D m₃ ys h8 tk8 E' hi hv hC hx' F8 N8
          obtain ⟨t3, rfl⟩ := strs_at hps (by simpa using hv)
          have hl8 := hd8 i
          k_steps
          exact EltEnd.mk ⟨_, rfl⟩ (by k_asm) (by k_asm)
        · intro ys hys D h8 tk8 F8 N8 off8
          refine hret _ _ _ _ _ ⟨D, ys, ys.length, spot, cs, gs, rfl, rfl, tr, hge, ?_⟩ F8 fun p hp => N8 p ?_
          · rw [hPP, ← hdr]
            exact Rels.all hys (by rw [List.size_toArray]; omega)
          · rcases List.mem_cons.mp hp with e | q
            · rw [e]; exact .head _
            · exact .tail _ (.tail _ (.tail _ (.tail _ (.tail _ q))))
end Mine
end
-- part Z1
section
open PySem PySem.W PyProof.Rows Builtin.Str
namespace Mine
/-- the signs that the law writes -/
def Sg (a : Nat) : Bool := (decide (97 ≤ a) && decide (a ≤ 116)) || a == 44 || a == 32 || a == 34 || a == 92
theorem Sg.lt {a : Nat} (h : Sg a = true) : a < 128 := by
  unfold Sg at h
  simp at h
  omega
theorem Sg.space {a : Nat} (h : Sg a = true) : Unicode.isSpace a = (Str.ofString " ").cps.contains a := by
  have key : ∀ b : Nat, b < 128 → Sg b = true → Unicode.isSpace b = (Str.ofString " ").cps.contains b := by decide +kernel
  exact key a (Sg.lt h) h
theorem takeWhile_same {p q : Nat → Bool} : ∀ {l : List Nat}, (∀ a ∈ l, p a = q a) → l.takeWhile p = l.takeWhile q
  | [], _ => rfl
  | a :: r, h => by
    rw [List.takeWhile_cons, List.takeWhile_cons, h a (.head _), takeWhile_same (l := r) fun b hb => h b (.tail _ hb)]
theorem strip_same {l : List Nat} (h : ∀ a ∈ l, Sg a = true) : Txt.strip (mkS l) = Txt.stripChars (mkS l) (Str.ofString " ") := by
  have e1 : stripLo Unicode.isSpace true (mkS l) = stripLo (Str.ofString " ").cps.contains true (mkS l) := by
    unfold stripLo
    rw [if_pos rfl, if_pos rfl, mkS_toList, takeWhile_same (p := Unicode.isSpace) (q := (Str.ofString " ").cps.contains) fun a ha => Sg.space (h a ha)]
  have e2 : ∀ lo, stripHi Unicode.isSpace true (mkS l) lo = stripHi (Str.ofString " ").cps.contains true (mkS l) lo := fun lo => by
    unfold stripHi
    rw [if_pos rfl, if_pos rfl, mkS_toList, takeWhile_same (p := Unicode.isSpace) (q := (Str.ofString " ").cps.contains) fun a ha => Sg.space (h a (List.mem_of_mem_drop (List.mem_reverse.mp ha)))]
  unfold Txt.strip Txt.stripChars
  rw [PyProof.Rows.stripBy_eq, PyProof.Rows.stripBy_eq, e1, e2]
/-- the reader's parts hold the text's signs alone -/
structure PS.All (p : PS) : Prop where
  part : ∀ a ∈ p.part, Sg a = true
  res : ∀ l ∈ p.res, ∀ a ∈ l, Sg a = true
theorem PS.All.step {p : PS} (h : p.All) {c : Nat} (hc : Sg c = true) : (pstep p c).All := by
  have app : ∀ a ∈ p.part ++ [c], Sg a = true := fun a ha => by
    rcases List.mem_append.mp ha with q | q
    · exact h.part a q
    · rw [List.mem_singleton.mp q]; exact hc
  unfold pstep
  split
  · exact ⟨app, h.res⟩
  split
  · split
    · exact ⟨h.part, h.res⟩
    · exact ⟨app, h.res⟩
  split
  · refine ⟨fun a ha => (by cases ha), fun l hl => ?_⟩
    rcases List.mem_append.mp hl with q | q
    · exact h.res l q
    · rw [List.mem_singleton.mp q]; exact h.part
  · exact ⟨app, h.res⟩
theorem parse_all {l : List Nat} (h : ∀ a ∈ l, Sg a = true) : ∀ p ∈ parseL l, ∀ a ∈ p, Sg a = true := by
  have key : ∀ (l : List Nat) (p : PS), (∀ a ∈ l, Sg a = true) → p.All → (l.foldl pstep p).All := by
    intro l
    induction l with
    | nil => intro p _ hp; exact hp
    | cons a r ih => intro p hl hp; exact ih _ (fun b hb => hl b (.tail _ hb)) (hp.step (hl a (.head _)))
  have A := key l pinit h ⟨fun a ha => (by cases ha), fun a ha => (by cases ha)⟩
  unfold parseL pfin
  intro p hp
  split at hp
  · exact A.res p hp
  · rcases List.mem_append.mp hp with q | q
    · exact A.res p q
    · rw [List.mem_singleton.mp q]; exact A.part
theorem strips_same {l : List Nat} (h : ∀ a ∈ l, Sg a = true) : (parseL l).map (fun p => Txt.strip (mkS p)) = (parseL l).map (fun p => Txt.stripChars (mkS p) (Str.ofString " ")) :=
  List.map_congr_left fun p hp => strip_same (parse_all h p hp)
/-- the trailing backslashes, by the text's rstrip -/
theorem bars_ev {l : List Nat} : ∀ {i : Nat}, i ≤ l.length → ev (fun k => l.getD k 0) i = decide (((l.take i).reverse.takeWhile (fun c => decide (c = 92))).length % 2 = 0)
  | 0, _ => by simp [ev]
  | i + 1, h => by
    have ih := bars_ev (l := l) (i := i) (by omega)
    have hl : i < l.length := by omega
    have e : l.getD i 0 = l[i] := by simp [List.getD, hl]
    rw [List.take_add_one, List.getElem?_eq_getElem hl]
    show (if l.getD i 0 = 92 then !ev _ i else true) = _
    rw [ih, e]
    simp only [Option.toList_some, List.reverse_append, List.reverse_cons, List.reverse_nil, List.nil_append, List.cons_append, List.takeWhile_cons]
    by_cases q : l[i] = 92
    · rw [if_pos q, if_pos (by simpa using q), List.length_cons]
      generalize ((l.take i).reverse.takeWhile (fun c => decide (c = 92))).length = n
      by_cases w : n % 2 = 0
      · rw [decide_eq_true w, decide_eq_false (by omega)]; rfl
      · rw [decide_eq_false w, decide_eq_true (by omega)]; rfl
    · rw [if_neg q, if_neg (by simpa using q)]
      rfl
theorem contains_bar (c : Nat) : (Str.ofString "\\").cps.contains c = decide (c = 92) := by
  have e : (Str.ofString "\\").cps = #[92] := rfl
  rw [e]
  by_cases q : c = 92
  · subst q; simp
  · rw [decide_eq_false q]
    simpa using q
theorem evB_ev {x : Str} {i : Nat} (h : i ≤ x.cps.toList.length) : evB x i = ev (at0 x) i := by
  have e0 : (Txt.slice x none (some (i : Int))).cps.toList = x.cps.toList.take i := slice_hi x i
  have T := takeWhile_len_le (fun c => decide (c = 92)) (x.cps.toList.take i).reverse
  rw [List.length_reverse, List.length_take] at T
  have hl : (Txt.rstripChars (Txt.slice x none (some (i : Int))) (Str.ofString "\\")).length = i - ((x.cps.toList.take i).reverse.takeWhile (fun c => decide (c = 92))).length := by
    unfold Txt.rstripChars
    rw [PyProof.Rows.stripBy_eq]
    unfold strSub stripLo stripHi
    rw [if_neg (by decide), if_pos rfl, List.drop_zero, e0]
    have hlen : (Txt.slice x none (some (i : Int))).length = i := by
      unfold Str.length
      rw [← Array.length_toList, e0, List.length_take]
      omega
    rw [show (Str.ofString "\\").cps.contains = (fun c => decide (c = 92)) from funext contains_bar, hlen]
    show (Array.extract _ _ _).size = _
    rw [Array.size_extract]
    have : (Txt.slice x none (some (i : Int))).cps.size = i := hlen
    omega
  unfold evB
  rw [hl]
  have b := bars_ev h
  show _ = ev (fun k => x.cps.toList.getD k 0) i
  rw [b]
  refine decide_eq_decide.mpr ?_
  generalize ((x.cps.toList.take i).reverse.takeWhile (fun c => decide (c = 92))).length = n at *
  rw [show ((i : Int) - ((i - n : Nat) : Int)) = (n : Int) by omega, Int.fmod_eq_emod_of_nonneg _ (by omega)]
  omega
theorem up_cast (n : Nat) (p : Nat → Bool) : Up (((List.range n).filter p).map (Nat.cast : Nat → Int)) := by
  rw [Up, List.pairwise_map]
  exact List.Pairwise.imp (fun h => by omega) (List.Pairwise.filter p List.pairwise_lt_range)
theorem mem_cast {n : Nat} {p : Nat → Bool} {z : Int} : z ∈ ((List.range n).filter p).map (Nat.cast : Nat → Int) ↔ ∃ k : Nat, z = (k : Int) ∧ k < n ∧ p k = true := by
  simp only [List.mem_map, List.mem_filter, List.mem_range]
  constructor
  · rintro ⟨k, ⟨h1, h2⟩, rfl⟩; exact ⟨k, rfl, h1, h2⟩
  · rintro ⟨k, rfl, h1, h2⟩; exact ⟨k, ⟨h1, h2⟩, rfl⟩
theorem row_eq {ns : List Int} (h : Row8 ns) {p : Nat → Prop} (hm : ∀ k : Nat, k < 8 → ((k : Int) ∈ ns ↔ p k)) {ms : List Int} (u : Up ms) (hq : ∀ z, z ∈ ms ↔ ∃ k : Nat, z = (k : Int) ∧ k < 8 ∧ p k) : ns = ms := by
  refine up_ext h.up u fun z => ?_
  rw [hq]
  constructor
  · intro hz
    obtain ⟨k, h1, rfl⟩ := h.nat hz
    exact ⟨k, rfl, h1, (hm k h1).mp hz⟩
  · rintro ⟨k, rfl, h1, h2⟩
    exact (hm k h1).mpr h2
theorem plain_q {x : Str} {r : R4} (h : IsRows (at0 x) r) : r.q = ((List.range 8).filter (fun i => decide (at0 x i = 34))).map (Nat.cast : Nat → Int) :=
  row_eq h.ok.q h.q (up_cast _ _) fun z => by rw [mem_cast]; simp
theorem plain_m {x : Str} {r : R4} (h : IsRows (at0 x) r) : r.m = ((List.range 8).filter (fun i => decide (at0 x i = 44))).map (Nat.cast : Nat → Int) :=
  row_eq h.ok.m h.m (up_cast _ _) fun z => by rw [mem_cast]; simp
theorem evL_up (x : Str) : Up (evL x) := by unfold evL; exact up_cast _ _
theorem mem_evL {x : Str} (hx : x.cps.toList.length = 8) {z : Int} : z ∈ evL x ↔ ∃ k : Nat, z = (k : Int) ∧ k < 8 ∧ ev (at0 x) k = true := by
  unfold evL
  rw [mem_cast]
  constructor
  · rintro ⟨k, h1, h2, h3⟩; exact ⟨k, h1, h2, by rw [← evB_ev (by omega)]; exact h3⟩
  · rintro ⟨k, h1, h2, h3⟩; exact ⟨k, h1, h2, by rw [evB_ev (by omega)]; exact h3⟩
theorem plain_c {x : Str} (hx : x.cps.toList.length = 8) {r : R4} (h : IsRows (at0 x) r) : r.c = (evL x).filter fun k => decide (at0 x k.toNat = 34) := by
  refine row_eq h.ok.c h.c (List.Pairwise.filter _ (evL_up x)) fun z => ?_
  rw [List.mem_filter, mem_evL hx]
  constructor
  · rintro ⟨⟨k, rfl, h1, h2⟩, h3⟩
    exact ⟨k, rfl, h1, by simpa using h3, h2⟩
  · rintro ⟨k, rfl, h1, h2, h3⟩
    exact ⟨⟨k, rfl, h1, h3⟩, by simpa using h2⟩
theorem plain_b {x : Str} (hx : x.cps.toList.length = 8) {r : R4} (h : IsRows (at0 x) r) : r.b = (evL x).filter fun k => decide (at0 x k.toNat = 92) := by
  refine row_eq h.ok.b h.b (List.Pairwise.filter _ (evL_up x)) fun z => ?_
  rw [List.mem_filter, mem_evL hx]
  constructor
  · rintro ⟨⟨k, rfl, h1, h2⟩, h3⟩
    exact ⟨k, rfl, h1, by simpa using h3, h2⟩
  · rintro ⟨k, rfl, h1, h2, h3⟩
    exact ⟨⟨k, rfl, h1, h3⟩, by simpa using h2⟩
theorem IsRows.plain {x : Str} (hx : x.cps.toList.length = 8) {r : R4} (h : IsRows (at0 x) r) : r.q = (plainR x).q ∧ r.c = (plainR x).c ∧ r.m = (plainR x).m ∧ r.b = (plainR x).b := by
  unfold plainR
  dsimp only
  exact ⟨plain_q h, plain_c hx h, plain_m h, plain_b hx h⟩
end Mine
end
-- part Z2
section
open PySem PySem.W PyProof.Rows Builtin.Str
namespace Mine
/-- a text of the law's -/
structure Good (x : Str) : Prop where
  len : x.cps.toList.length = 8
  sg : ∀ a ∈ x.cps.toList, Sg a = true
theorem at0_upd {x y : Str} {p k : Nat} (hx : x.cps.toList.length = 8) (hp : p < 8) (hy : y.cps.toList = x.cps.toList.take p ++ [k] ++ x.cps.toList.drop (p + 1)) (i : Nat) : at0 y i = if i = p then k else at0 x i := by
  unfold at0
  rw [hy]
  have hl : (x.cps.toList.take p).length = p := by rw [List.length_take]; omega
  simp only [List.getD]
  by_cases h : i = p
  · subst h
    rw [if_pos rfl, List.append_assoc, List.getElem?_append_right (by omega), hl, Nat.sub_self]
    rfl
  · rw [if_neg h]
    by_cases h2 : i < p
    · rw [List.append_assoc, List.getElem?_append_left (by omega), List.getElem?_take_of_lt h2]
    · rw [List.getElem?_append_right (by rw [List.length_append, hl, List.length_singleton]; omega), List.length_append, hl, List.length_singleton, List.getElem?_drop, show p + 1 + (i - (p + 1)) = i by omega]
theorem Good.put {x y : Str} {p k : Nat} (h : Good x) (hp : p < 8) (hk : Sg k = true) (hy : y.cps.toList = x.cps.toList.take p ++ [k] ++ x.cps.toList.drop (p + 1)) : Good y := by
  have hx := h.len
  refine ⟨by rw [hy, List.length_append, List.length_append, List.length_take, List.length_drop, List.length_singleton]; omega, fun a ha => ?_⟩
  rw [hy] at ha
  rcases List.mem_append.mp ha with q | q
  · rcases List.mem_append.mp q with q | q
    · exact h.sg a (List.mem_of_mem_take q)
    · rw [List.mem_singleton.mp q]; exact hk
  · exact h.sg a (List.mem_of_mem_drop q)
theorem at8 {x : Str} (h : Good x) : at0 x 8 = 0 := by
  unfold at0
  simp only [List.getD]
  rw [List.getElem?_eq_none (by rw [h.len]; exact Nat.le_refl _)]
  rfl
theorem neu_zero : Neu 0 := ⟨by decide, by decide, by decide⟩
theorem turn_mid {x : Str} {p : Nat} {r : R4} (h : Good x) (hp : p < 8) (hr : IsRows (at0 x) r) : IsRows (fun i => if i = p then 0 else at0 x i) (signR (at0 x) p (at0 x p) r) :=
  sign_rows (a := at0 x) hp (at8 h) (fun i hi => by rw [if_neg hi]) (fun _ _ => rfl) (.inr ⟨rfl, by show Neu (if p = p then 0 else _); rw [if_pos rfl]; exact neu_zero⟩) hr
theorem turn_rows {x y : Str} {p k : Nat} {r : R4} (h : Good x) (hp : p < 8) (hy : y.cps.toList = x.cps.toList.take p ++ [k] ++ x.cps.toList.drop (p + 1)) (hr : IsRows (at0 x) r) :
    IsRows (at0 y) (signR (at0 x) p k (signR (at0 x) p (at0 x p) r)) := by
  have u := at0_upd h.len hp hy
  refine sign_rows (a := fun i => if i = p then 0 else at0 x i) hp (at8 h) (fun i hi => ?_) (fun i hi => ?_) (.inl ⟨?_, ?_⟩) (turn_mid h hp hr)
  · show (if i = p then 0 else _) = _
    rw [if_neg hi, u, if_neg hi]
  · show _ = if i = p then 0 else _
    rw [if_neg (by omega)]
  · show Neu (if p = p then 0 else _)
    rw [if_pos rfl]; exact neu_zero
  · rw [u, if_pos rfl]
/-- the stretch's two lists are one -/
theorem stretch_eq {x : Str} {r : R4} (h : Good x) (hr : IsRows (at0 x) r) {low high : Nat} (hlh : low ≤ high) (hh : high ≤ 8) {spot : Int} {c g : List Int} (tr : TR r low high spot c g) (hge : ¬ spot < (high : Int)) :
    (parseL ((x.cps.toList.take high).drop low)).map (fun p => Txt.strip (mkS p)) = (dropE (partsP (at0 x) low high c g)).map (fun p => Txt.stripChars (mkS p) (Str.ofString " ")) := by
  rw [strips_same fun a ha => h.sg a (List.mem_of_mem_take (List.mem_of_mem_drop ha)), told_eq (t := at0 x) (fun _ => rfl) h.len hr hlh hh tr hge]
/-- the sign of a deed -/
def signK (c : Nat) (j : Int) : Nat := if j = 0 then c else if j = 1 then 44 else if j = 2 then 32 else if j = 3 then 34 else 92
theorem signK_sg {c : Nat} (hc : Sg c = true) (j : Int) : Sg (signK c j) = true := by
  unfold signK
  repeat' split
  · exact hc
  all_goals decide
theorem abc_good : Good (Str.ofString "abcdefgh") := by
  have e : (Str.ofString "abcdefgh").cps.toList = [97, 98, 99, 100, 101, 102, 103, 104] := rfl
  exact ⟨by rw [e]; rfl, by rw [e]; decide⟩
theorem abc_rows : IsRows (at0 (Str.ofString "abcdefgh")) ⟨[], [], [], []⟩ := by
  have e : ∀ i, at0 (Str.ofString "abcdefgh") i = [97, 98, 99, 100, 101, 102, 103, 104].getD i 0 := fun i => rfl
  have n : ∀ i, i < 8 → [97, 98, 99, 100, 101, 102, 103, 104].getD i 0 ≠ 34 ∧ [97, 98, 99, 100, 101, 102, 103, 104].getD i 0 ≠ 44 ∧ [97, 98, 99, 100, 101, 102, 103, 104].getD i 0 ≠ 92 := by decide
  have r0 : Row8 [] := ⟨.nil, fun z hz => by cases hz⟩
  refine ⟨⟨r0, r0, r0, r0⟩, fun k hk => ?_, fun k hk => ?_, fun k hk => ?_, fun k hk => ?_⟩
  · rw [e]; simp only [List.not_mem_nil, (n k hk).1]
  · rw [e]; simp only [List.not_mem_nil, (n k hk).1, false_and]
  · rw [e]; simp only [List.not_mem_nil, (n k hk).2.1]
  · rw [e]; simp only [List.not_mem_nil, (n k hk).2.2, false_and]
/-- the deeds' letters -/
theorem letters {i c : Nat} (h : (Str.ofString "ijklmnopqrst").cps.toList[i]? = some c) : Sg c = true := by
  have e : (Str.ofString "ijklmnopqrst").cps.toList = [105, 106, 107, 108, 109, 110, 111, 112, 113, 114, 115, 116] := rfl
  rw [e] at h
  have hm := List.mem_of_getElem? h
  have key : ∀ a ∈ [105, 106, 107, 108, 109, 110, 111, 112, 113, 114, 115, 116], Sg a = true := by decide
  exact key c hm
theorem letters_ascii : (Str.ofString "ijklmnopqrst").cps.all (· < 128) = true := by decide +kernel
end Mine
end
-- part S8
section
open PySem PySem.W PyProof.Rows PySem.Spec PySem.SeqAt
namespace Mine
section
variable {prog : Program} {w : World} {A : Around} {E : Value → Shared → Prop} {s : Shared} {a b : Value} {d : PyData} {as bs : List Addr} {Q : Value → Shared → Prop}
/-- two that read alike are equal -/
theorem ne_alike (ra : Reads s.heap a d as) (rb : Reads s.heap b d bs) (hs : shaped d = true) (hm : noMix d d = true) (hu : A.units + 64 < cLine) (h : Q (.bool false) s) : wpAny (model prog w) A (compareOp .NotEq a b) Q E s :=
  ne_dataH_same ra rb hs hs hu hm (by rw [Spec.same_self]; exact h)
theorem eq_alike (ra : Reads s.heap a d as) (rb : Reads s.heap b d bs) (hs : shaped d = true) (hm : noMix d d = true) (hu : A.units + 64 < cLine) (h : Q (.bool true) s) : wpAny (model prog w) A (compareOp .Eq a b) Q E s :=
  eq_dataH_same ra rb hs hs hu hm (by rw [Spec.same_self]; exact h)
end
theorem readsAll_texts {h : Heap} : ∀ {vs : List Value} {ts : List Str}, StrsAre vs ts → ReadsAll h vs (ts.map PyData.str) []
  | _, _, .nil => .nil
  | _, _, .cons x t r => by
    have := ReadsAll.cons (Reads.str (h := h) x t) (readsAll_texts (h := h) r)
    simpa using this
theorem reads_texts {h : Heap} {a : Addr} {vs : List Value} {n : Nat} {ts : List Str} (hl : h.get? a = some (listOf vs.toArray n)) (hi : StrsAre vs ts) : Reads h (.ref a) (.list (ts.map PyData.str)) [a] :=
  Reads.list hl rfl rfl (by simpa using readsAll_texts hi)
theorem lay_texts : ∀ {ts : List Str}, (∀ t ∈ ts, PyData.strOk t = true) → PyData.canLayAll0 (ts.map PyData.str) = true
  | [], _ => by simp [PyData.canLayAll0]
  | t :: r, h => by
    have h1 := h t (.head _)
    have h2 := lay_texts (ts := r) fun u hu => h u (.tail _ hu)
    simp [PyData.canLayAll0, PyData.canLay0, h1, h2]
theorem depth_texts : ∀ ts : List Str, PyData.depthAll (ts.map PyData.str) ≤ 1
  | [] => by simp [PyData.depthAll]
  | t :: r => by
    have := depth_texts r
    simp only [List.map_cons, PyData.depthAll, PyData.depth]
    omega
theorem shaped_texts {ts : List Str} (h : ∀ t ∈ ts, PyData.strOk t = true) : shaped (.list (ts.map PyData.str)) = true := by
  have h1 := depth_texts ts
  have h2 : PyData.depth (.list (ts.map PyData.str)) ≤ 64 := by simp only [PyData.depth]; omega
  unfold shaped
  rw [Bool.and_eq_true]
  exact ⟨by simp only [PyData.canLay0]; exact lay_texts h, decide_eq_true h2⟩
theorem noMix_texts : ∀ ts : List Str, noMixAll (ts.map PyData.str) (ts.map PyData.str) = true
  | [] => by simp [noMixAll]
  | t :: r => by simp [noMixAll, noMix, noMix_texts r]
/-- a stripped text's signs are the text's -/
theorem strip_ok {x : Str} (h : ∀ c ∈ x.cps.toList, c < 128) : PyData.strOk (Txt.strip x) = true := by
  unfold Txt.strip
  rw [PyProof.Rows.stripBy_eq]
  unfold PyData.strOk Builtin.Str.strSub
  rw [Array.all_eq_true_iff_forall_mem]
  intro c hc
  have : c ∈ x.cps := by
    obtain ⟨i, hi, rfl⟩ := Array.mem_iff_getElem.mp hc
    rw [Array.getElem_extract]
    exact Array.getElem_mem _
  have := h c (by simpa using this)
  simp; omega
theorem parts_ok {l : List Nat} (h : ∀ c ∈ l, Sg c = true) : ∀ t ∈ (parseL l).map (fun p => Txt.strip (mkS p)), PyData.strOk t = true := by
  intro t ht
  obtain ⟨p, hp, rfl⟩ := List.mem_map.mp ht
  exact strip_ok fun c hc => Sg.lt (parse_all h p hp c hc)
/-- the four rows as data -/
def rowsD (r : R4) : PyData := .list [.list (r.q.map PyData.int), .list (r.c.map PyData.int), .list (r.m.map PyData.int), .list (r.b.map PyData.int)]
theorem reads_row {h : Heap} {a : Addr} {vs : List Value} {n : Nat} {ns : List Int} (hl : h.get? a = some (listOf vs.toArray n)) (hi : IntsAre vs ns) : Reads h (.ref a) (.list (ns.map PyData.int)) [a] :=
  Reads.list hl rfl rfl (by simpa using readsAll_of_ints hi)
theorem reads_rows {h : Heap} {R q c m b : Addr} {nR nq nc nm nb : Nat} {vq vc vm vb : List Value} {r : R4} (hR : h.get? R = some (listOf #[.ref q, .ref c, .ref m, .ref b] nR)) (hq : h.get? q = some (listOf (List.toArray vq) nq)) (hc : h.get? c = some (listOf (List.toArray vc) nc))
    (hm : h.get? m = some (listOf (List.toArray vm) nm)) (hb : h.get? b = some (listOf (List.toArray vb) nb)) (iq : IntsAre vq r.q) (ic : IntsAre vc r.c) (im : IntsAre vm r.m) (ib : IntsAre vb r.b) : ∃ as, Reads h (.ref R) (rowsD r) as :=
  ⟨_, Reads.list hR rfl rfl (.cons (reads_row hq iq) (.cons (reads_row hc ic) (.cons (reads_row hm im) (.cons (reads_row hb ib) .nil))))⟩
theorem shaped_rows (r : R4) : shaped (rowsD r) = true := by
  have d1 := W.depthAll_ints r.q
  have d2 := W.depthAll_ints r.c
  have d3 := W.depthAll_ints r.m
  have d4 := W.depthAll_ints r.b
  unfold shaped rowsD
  rw [Bool.and_eq_true]
  refine ⟨by simp [PyData.canLay0, PyData.canLayAll0, canLayAll0_ints], decide_eq_true ?_⟩
  simp only [PyData.depth, PyData.depthAll]
  omega
theorem noMix_rows (r : R4) : noMix (rowsD r) (rowsD r) = true := by
  unfold rowsD
  simp [noMix, noMixAll, noMix_ints]
end Mine
end
-- part L1
section
open PySem PySem.W PyProof.Rows PyProof.Rows.LCg PyProof.Rows.LCt
namespace Mine
theorem sign_item {ch : Nat} {j : Int} {u t1 t2 t3 t4 : Tok} (h0 : 0 ≤ j) (h5 : j < 5) : ∃ t, ([Value.str ⟨#[ch]⟩ u, Value.str (Str.ofString ",") t1, Value.str (Str.ofString " ") t2, Value.str (Str.ofString "\"") t3, Value.str (Str.ofString "\\") t4] : List Value)[j.toNat]? = some (.str ⟨#[signK ch j]⟩ t) := by
  have : j = 0 ∨ j = 1 ∨ j = 2 ∨ j = 3 ∨ j = 4 := by omega
  rcases this with rfl | rfl | rfl | rfl | rfl
  · exact ⟨u, rfl⟩
  · exact ⟨t1, rfl⟩
  · exact ⟨t2, rfl⟩
  · exact ⟨t3, rfl⟩
  · exact ⟨t4, rfl⟩
theorem allLt_at {d : Addr} : ∀ {l : List (Addr × Obj)}, AllLt d l → ∀ p ∈ l, p.1 < d
  | [], _, _, h => by cases h
  | _ :: _, ⟨h1, h2⟩, p, hp => by
    rcases List.mem_cons.mp hp with e | q
    · rw [e]; exact h1
    · exact allLt_at h2 p q
theorem two_ints {vs : List Value} {ns : List Int} (h : IntsAre vs ns) (hl : ns.length = 2) : ∃ a b t1 t2, ns = [a, b] ∧ vs = [.int a t1, .int b t2] := by
  match ns, h with
  | [], _ => cases hl
  | [_], _ => cases hl
  | [a, b], .cons _ t1 (.cons _ t2 .nil) => exact ⟨a, b, t1, t2, rfl, rfl⟩
  | _ :: _ :: _ :: _, _ => simp at hl
theorem put_list (x : Str) (p k : Nat) : (Txt.slice x none (some (p : Int)) ++ (⟨#[k]⟩ : Str) ++ Txt.slice x (some ((p : Int) + 1)) none).cps.toList = x.cps.toList.take p ++ [k] ++ x.cps.toList.drop (p + 1) := by
  have e : ((p : Int) + 1) = ((p + 1 : Nat) : Int) := by omega
  rw [e, Str.cps_append, Str.cps_append, Array.toList_append, Array.toList_append, slice_hi, slice_lo]
/-- a mark in the context: a stop behind it is passed by -/
def Mark (_ : Nat) : Prop := True
local macro_rules | `(tactic| is_list) => `(tactic| exact News.isList (by k_asm) (by k_mem))
local macro_rules | `(tactic| k_mem) => `(tactic| assumption)
local macro_rules | `(tactic| k_all) => `(tactic| with_reducible assumption)
local macro_rules | `(tactic| walk_at "eval Name") => `(tactic| (k_here; k_dflt (refine' nameX_L ?k1 ?k2 ?_; (case k1 => k_asm); (case k2 => first | exact rfl | assumption); k_whole)))
local macro_rules | `(tactic| walk_at "exec For Tuple Call") => `(tactic| (k_here; refine Stop.out ?_))
local macro_rules | `(tactic| walk_at "exec Assign cons Subscript") => `(tactic| ((fail_if_success (have : Mark 1 := by assumption)); k_here; refine Stop.out ?_))
local macro_rules | `(tactic| walk_at "subscriptTail") => `(tactic| ((fail_if_success (have : Mark 2 := by assumption)); (have : Mark 1 := by assumption); k_here; refine Stop.out ?_))
local macro_rules | `(tactic| walk_at "exec For Tuple List") => `(tactic| (k_here; refine Stop.out ?_))
local macro_rules | `(tactic| walk_at "compareOp NotEq") => `(tactic| (k_here; refine Stop.out ?_))
local macro_rules | `(tactic| walk_at "call type:zip") => `(tactic| (k_here; refine Stop.out ?_))
local macro_rules | `(tactic| walk_at "call ref") => `(tactic| (k_here; refine Stop.out ?_))
set_option maxRecDepth 100000 in
set_option maxHeartbeats 8000000 in
theorem holds : PySem.Challenge.rw_pg0132_01.Holds := by
  refine hd ?_
  k_go0
  all_goals try k_fold
  k_steps
  refine Stop.mk (For_turns (by k_asm) ?_)
  k_steps
  rename_i q _ _ c _ o1 m _ o2 b _ o3 R _ o4 _ _ _ _ _ _ _ _ _ _ _ _ iv5 hc5 hl5 _ D ws _ F1 N1 iws oD
  refine Stop.mk ?_
  refine zip_text (ys := ws) (n := 0) (news := (q, listOf (List.toArray []) 0) :: (c, listOf (List.toArray []) 0) :: (m, listOf (List.toArray []) 0) :: (b, listOf (List.toArray []) 0) :: [(R, listOf #[.ref q, .ref c, .ref m, .ref b] 0)])
    (fun i mm nx => ∃ (x : Str) (tx : Tok) (r : R4), RowsAt q c m b [(R, listOf #[.ref q, .ref c, .ref m, .ref b] 0)] nx r ∧ IsRows (at0 x) r ∧ Good x ∧ mm (Str.ofString "text") = some (.str x tx) ∧ mm (Str.ofString "rows") = some (.ref R))
    letters_ascii rfl F1 N1 (.head _) ?_ ?_ ?_ ?_ ?_
  · intro p hp
    simp only [List.mem_cons, List.not_mem_nil, or_false] at hp ⊢
    rcases hp with h | h | h | h | h <;> (repeat (first | exact h | exact Or.inl h | refine Or.inr ?_))
  · intro p hp
    obtain ⟨_, _, _, e1, e2, e3, e4, e5⟩ := oD
    simp only [List.mem_cons, List.not_mem_nil, or_false] at hp
    rcases hp with h | h | h | h | h <;> (rw [h]; apply Nat.ne_of_lt; assumption)
  · exact ⟨_, _, ⟨[], [], [], []⟩, ⟨[], [], [], [], 0, 0, 0, 0, rfl, .nil, .nil, .nil, .nil⟩, abc_rows, abc_good, rfl, rfl⟩
  · clear F1 N1
    rintro i ch u vy T' m₁ nx h6 tk6 own hch hvy hadr hoff ⟨x, tx, r, hrow, hr, hg, mt, mr⟩ hT F6 N6
    obtain ⟨tY, rfl⟩ := ints_at iws hvy
    generalize List.getD (α := Int) _ i 0 = X at *
    dsimp only [envOf] at F6 N6
    obtain ⟨vq, vc, vm, vb, nq, nc, nm, nb, rfl, iq, ic, im, ib⟩ := hrow
    k_steps
    have mk1 : Mark 1 := trivial
    have hP0 : 0 ≤ X.fmod 8 := Int.fmod_nonneg_of_pos _ (by decide)
    have hP8 : X.fmod 8 < 8 := Int.fmod_lt_of_pos _ (by decide)
    have hY0 : 0 ≤ (X.fdiv 8).fmod 405 := Int.fmod_nonneg_of_pos _ (by decide)
    have hY8 : (X.fdiv 8).fmod 405 < 405 := Int.fmod_lt_of_pos _ (by decide)
    generalize X.fmod 8 = P at *
    generalize (X.fdiv 8).fmod 405 = Y at *
    obtain ⟨p, rfl⟩ : ∃ p : Nat, P = (p : Int) := ⟨P.toNat, by omega⟩
    have hp8 : p < 8 := by omega
    refine Stop.mk ?_
    k_steps
    have mk2 : Mark 2 := trivial
    rename Fr _ _ _ _ => F7
    rename News _ _ _ _ => N7
    have hj0 : 0 ≤ Y.fmod 5 := Int.fmod_nonneg_of_pos _ (by decide)
    have hj5 : Y.fmod 5 < 5 := Int.fmod_lt_of_pos _ (by decide)
    obtain ⟨t7, e7⟩ := sign_item (ch := ch) hj0 hj5
    refine Stop.mk (item_litK (News.isList N7 (.head _)) hj0 (by omega) e7 ?_)
    have hsg : Sg (signK ch (Y.fmod 5)) = true := signK_sg (letters hch) _
    generalize signK ch (Y.fmod 5) = k at *
    clear e7 hj0 hj5
    have N8 := fun p hp => N7 p (.tail _ (.tail _ hp))
    clear N7
    have hx8 := hg.len
    have hxs : x.cps.size = 8 := by rw [← Array.length_toList]; exact hx8
    have hxl : x.length = 8 := hxs
    k_steps
    rename Fr _ _ _ _ => F9
    rename News _ _ _ _ => N9
    rw [item_at0 (by omega)]
    have hAp : Apart4 q c m b ((R, listOf #[.ref q, .ref c, .ref m, .ref b] 0) :: own) := by
      obtain ⟨e1, e2⟩ := o2
      obtain ⟨e3, e4, e5⟩ := o3
      obtain ⟨e6, e7, e8, e9⟩ := o4
      refine ⟨Nat.ne_of_lt o1, Nat.ne_of_lt e2, Nat.ne_of_lt e5, Nat.ne_of_lt e1, Nat.ne_of_lt e4, Nat.ne_of_lt e3, ?_, ?_, ?_, ?_⟩
      · intro p hp
        rcases List.mem_cons.mp hp with h | h
        · rw [h]; exact (Nat.ne_of_lt e9).symm
        · exact OwnOff.ne hoff (by simp) p h
      · intro p hp
        rcases List.mem_cons.mp hp with h | h
        · rw [h]; exact (Nat.ne_of_lt e8).symm
        · exact OwnOff.ne hoff (by simp) p h
      · intro p hp
        rcases List.mem_cons.mp hp with h | h
        · rw [h]; exact (Nat.ne_of_lt e7).symm
        · exact OwnOff.ne hoff (by simp) p h
      · intro p hp
        rcases List.mem_cons.mp hp with h | h
        · rw [h]; exact (Nat.ne_of_lt e6).symm
        · exact OwnOff.ne hoff (by simp) p h
    refine Stop.mk (Fn.use (fn_sign (R := R) (nR := 0) (.head _) hAp ⟨vq, vc, vm, vb, nq, nc, nm, nb, rfl, iq, ic, im, ib⟩ hr.ok hxs hp8) (by assumption) F9 (by assumption) N9 (by assumption) rfl (by decide +kernel) (by decide +kernel) ?_)
    rintro _ ledA hA tkA ⟨rfl, hRA⟩ FA NA
    have okA := (turn_mid hg hp8 hr).ok
    generalize hrA : signR (at0 x) p (at0 x p) r = rA at *
    obtain ⟨vqA, vcA, vmA, vbA, nqA, ncA, nmA, nbA, rfl, iqA, icA, imA, ibA⟩ := hRA
    clear iq ic im ib F9 N9 N8 hadr
    k_steps
    rename Fr _ _ _ _ => F9
    rename News _ _ _ _ => N9
    refine Stop.mk (Fn.use (fn_sign (R := R) (nR := 0) (.head _) hAp ⟨vqA, vcA, vmA, vbA, nqA, ncA, nmA, nbA, rfl, iqA, icA, imA, ibA⟩ okA hxs hp8) (by assumption) F9 (by assumption) N9 (by assumption) rfl (by decide +kernel) (by decide +kernel) ?_)
    rintro _ ledB hB tkB ⟨rfl, hRB⟩ FB NB
    generalize hrB : signR (at0 x) p k rA = rB at *
    obtain ⟨vq, vc, vm, vb, nq, nc, nm, nb, rfl, iq, ic, im, ib⟩ := hRB
    clear iqA icA imA ibA F9 N9
    k_steps
    rename_i a2 _ _ Ds vs2 ns2 c2 _ is2 es2 ps2 os2 _ _ _ _ _ l8 _ _ lL _ F10 N10 oL
    have hy := put_list x p k
    have hr' := turn_rows hg hp8 hy hr
    rw [hrA, hrB] at hr'
    have hg' := hg.put hp8 hsg hy
    clear hy hr hg hrA hrB hsg hch hvy hT
    generalize Txt.slice x none (some (p : Int)) ++ (⟨#[k]⟩ : Str) ++ Txt.slice x (some ((p : Int) + 1)) none = y at *
    have ok' := hr'.ok
    have hy8 := hg'.len
    have hys : y.cps.size = 8 := by rw [← Array.length_toList]; exact hy8
    have hyl : y.length = 8 := hys
    have in9 : ∀ z ∈ ns2, 0 ≤ z ∧ z ≤ 8 := fun z hz => by
      have q1 : 0 ≤ (Y.fdiv 5).fmod 9 := Int.fmod_nonneg_of_pos _ (by decide)
      have q2 : (Y.fdiv 5).fmod 9 < 9 := Int.fmod_lt_of_pos _ (by decide)
      have q3 : 0 ≤ (Y.fdiv 45).fmod 9 := Int.fmod_nonneg_of_pos _ (by decide)
      have q4 : (Y.fdiv 45).fmod 9 < 9 := Int.fmod_lt_of_pos _ (by decide)
      have hz' := ps2.mem_iff.mp hz
      simp only [List.mem_cons, List.not_mem_nil, or_false] at hz'
      rcases hz' with e | e <;> omega
    obtain ⟨lo2, hi2, t21, t22, rfl, rfl⟩ := two_ints is2 es2
    have l0 := in9 lo2 (by simp)
    have l1 := in9 hi2 (by simp)
    have l2 : lo2 ≤ hi2 := by simpa using os2
    clear in9 is2 es2 ps2 os2
    obtain ⟨tz, tw, oa, N11⟩ : ∃ (tz tw : Tok) (oa : Obj), News _ _ _ ((lL, listOf (List.toArray [Value.ref Ds, Value.ref l8]) 0) :: (l8, listOf (List.toArray [Value.int 0 tz, Value.int 8 tw]) 0) :: (Ds, listOf (List.toArray [Value.int lo2 t21, Value.int hi2 t22]) c2) :: (a2, oa) ::
      (q, listOf (List.toArray vq) nq) :: (c, listOf (List.toArray vc) nc) :: (m, listOf (List.toArray vm) nm) :: (b, listOf (List.toArray vb) nb) :: (R, listOf #[.ref q, .ref c, .ref m, .ref b] 0) :: own) := ⟨_, _, _, N10⟩
    clear N10
    generalize hL2 : (l8, listOf (List.toArray [Value.int 0 tz, Value.int 8 tw]) 0) :: (Ds, listOf (List.toArray [Value.int lo2 t21, Value.int hi2 t22]) c2) :: (q, listOf (List.toArray vq) nq) :: (c, listOf (List.toArray vc) nc) :: (m, listOf (List.toArray vm) nm) :: (b, listOf (List.toArray vb) nb) :: (R, listOf #[.ref q, .ref c, .ref m, .ref b] 0) :: own = led2
    have hsub2 : ∀ p ∈ led2, p ∈ (lL, listOf (List.toArray [Value.ref Ds, Value.ref l8]) 0) :: (l8, listOf (List.toArray [Value.int 0 tz, Value.int 8 tw]) 0) :: (Ds, listOf (List.toArray [Value.int lo2 t21, Value.int hi2 t22]) c2) :: (a2, oa) ::
      (q, listOf (List.toArray vq) nq) :: (c, listOf (List.toArray vc) nc) :: (m, listOf (List.toArray vm) nm) :: (b, listOf (List.toArray vb) nb) :: (R, listOf #[.ref q, .ref c, .ref m, .ref b] 0) :: own := by
      intro p hp
      rw [← hL2] at hp
      rcases List.mem_cons.mp hp with h | hp
      · rw [h]; exact .tail _ (.head _)
      rcases List.mem_cons.mp hp with h | hp
      · rw [h]; exact .tail _ (.tail _ (.head _))
      exact .tail _ (.tail _ (.tail _ (.tail _ hp)))
    refine list_turns (l := lL) (n := 0) (news := led2)
      (fun _ mm nx => ∃ (ty : Tok), nx = led2 ∧ mm (Str.ofString "text") = some (.str y ty) ∧ mm (Str.ofString "rows") = some (.ref R)) rfl F10 N11 (.head _) hsub2 ?_ ?_ ?_ ?_
    · intro p hp
      rw [← hL2] at hp
      obtain ⟨z1, z2, _, z3, z4, z5, z6, z7, z8⟩ := oL
      simp only [List.mem_cons] at hp
      rcases hp with h | h | h | h | h | h | h | h
      · rw [h]; exact Nat.ne_of_lt z1
      · rw [h]; exact Nat.ne_of_lt z2
      · rw [h]; exact Nat.ne_of_lt z3
      · rw [h]; exact Nat.ne_of_lt z4
      · rw [h]; exact Nat.ne_of_lt z5
      · rw [h]; exact Nat.ne_of_lt z6
      · rw [h]; exact Nat.ne_of_lt z7
      · exact Nat.ne_of_lt (allLt_at z8 p h)
    · exact ⟨_, rfl, rfl, mr⟩
    · clear F10 N11 mt mr
      rintro i' vy2 m₂ nx2 h7 tk7 own2 hvy2 _ hoff2 ⟨ty, rfl, mt2, mr2⟩ F11 N12
      dsimp only [envOf] at F11 N12
      have hRm : (R, listOf #[.ref q, .ref c, .ref m, .ref b] 0) ∈ nx2 ++ own2 := by rw [← hL2]; simp
      have hqm : (q, listOf (List.toArray vq) nq) ∈ nx2 ++ own2 := by rw [← hL2]; simp
      have hcm : (c, listOf (List.toArray vc) nc) ∈ nx2 ++ own2 := by rw [← hL2]; simp
      have hmm : (m, listOf (List.toArray vm) nm) ∈ nx2 ++ own2 := by rw [← hL2]; simp
      have hbm : (b, listOf (List.toArray vb) nb) ∈ nx2 ++ own2 := by rw [← hL2]; simp
      obtain ⟨a, low, high, na, ta, tb, rfl, ham, hlh, hh8⟩ : ∃ (a : Addr) (low high na : Nat) (ta tb : Tok), vy2 = .ref a ∧ (a, listOf (List.toArray [Value.int (low : Int) ta, Value.int (high : Int) tb]) na) ∈ nx2 ++ own2 ∧ low ≤ high ∧ high ≤ 8 := by
        match i', hvy2 with
        | 0, h =>
          refine ⟨Ds, lo2.toNat, hi2.toNat, c2, t21, t22, (Option.some.inj h).symm, ?_, by omega, by omega⟩
          rw [← hL2, show ((lo2.toNat : Nat) : Int) = lo2 by omega, show ((hi2.toNat : Nat) : Int) = hi2 by omega]
          simp
        | 1, h =>
          refine ⟨l8, 0, 8, 0, tz, tw, (Option.some.inj h).symm, ?_, by omega, by omega⟩
          rw [← hL2]
          simp
        | n + 2, h => simp at h
      generalize hL3 : nx2 ++ own2 = led3 at *
      k_steps
      rename Fr _ _ _ _ => F13
      rename News _ _ _ _ => N13
      have hpl : (Txt.slice y (some (low : Int)) (some (high : Int))).cps.toList = (y.cps.toList.take high).drop low := slice_toList y low high
      have hpl8 : (Txt.slice y (some (low : Int)) (some (high : Int))).cps.toList.length ≤ 8 := by rw [hpl, List.length_drop, List.length_take]; omega
      refine Stop.mk (Fn.use (fn_parse hpl8) (by assumption) F13 (by assumption) N13 (by assumption) rfl (by decide +kernel) (by decide +kernel) ?_)
      rintro _ ledP hP tkP ⟨lP, vsP, nP, rfl, rfl, hvsP⟩ FP NP
      rw [hpl] at hvsP
      obtain ⟨TT, hTT⟩ : ∃ TT, TT = (parseL ((y.cps.toList.take high).drop low)).map (fun p => Txt.strip (mkS p)) := ⟨_, rfl⟩
      rw [← hTT] at hvsP
      clear F13 N13
      k_steps
      rename Fr _ _ _ _ => F13
      rename News _ _ _ _ => N13
      refine Stop.mk (Fn.use (fn_told (nR := 0) (.tail _ hRm) (.tail _ hqm) (.tail _ hcm) (.tail _ hmm) (.tail _ hbm) iq ic im ib ok' hy8 hlh hh8) (by assumption) F13 (by assumption) N13 (by assumption) rfl (by decide +kernel) (by decide +kernel) ?_)
      rintro _ ledT hT tkT ⟨lT, vsT, nT, spot, cT, gT, rfl, rfl, trT, hge, hvsT⟩ FT NT
      rw [← stretch_eq hg' hr' hlh hh8 trT hge, ← hTT] at hvsT
      clear F13 N13
      have hok : ∀ t ∈ TT, PyData.strOk t = true := by
        rw [hTT]
        exact parts_ok fun c hc => hg'.sg c (List.mem_of_mem_take (List.mem_of_mem_drop hc))
      refine ne_alike (reads_texts (NT _ (.tail _ (.head _))).1 hvsP) (reads_texts (NT _ (.head _)).1 hvsT) (shaped_texts hok) (by simp only [PySem.SeqAt.noMix]; exact noMix_texts TT) (by show callerA.units + 3 + 64 < cLine; decide +kernel) ?_
      clear hvsP hvsT hTT hok
      k_steps
      refine' invEnd (nx := nx2) ?ef ?en ?ea ?ej
      case ef => assumption
      case en => exact fun p hp => NT p (.tail _ (.tail _ (by rw [← hL3]; exact hp)))
      case ea => rfl
      case ej => exact ⟨ty, rfl, mt2, mr2⟩
    · clear F10 N11 mt mr
      rintro m₂ nx2 h8 tk8 ⟨ty, h2, mt2, mr2⟩ F11 N12
      subst h2
      dsimp only [envOf] at F11 N12
      k_steps
      refine' invEnd (nx := (q, listOf (List.toArray vq) nq) :: (c, listOf (List.toArray vc) nc) :: (m, listOf (List.toArray vm) nm) :: (b, listOf (List.toArray vb) nb) :: [(R, listOf #[.ref q, .ref c, .ref m, .ref b] 0)]) ?ef ?en ?ea ?ej
      case ef => assumption
      case en => exact fun p hp => N12 p (by rw [← hL2]; exact .tail _ (.tail _ hp))
      case ea => rfl
      case ej => exact ⟨y, ty, rB, ⟨vq, vc, vm, vb, nq, nc, nm, nb, rfl, iq, ic, im, ib⟩, hr', hg', mt2, mr2⟩
  · clear F1 N1
    rintro m₁ nx h6 tk6 ⟨x, tx, r, hrow, hr, hg, mt, mr⟩ F6 N6
    obtain ⟨vq, vc, vm, vb, nq, nc, nm, nb, rfl, iq, ic, im, ib⟩ := hrow
    dsimp only [envOf] at F6 N6
    have hx8 := hg.len
    k_steps
    rename Fr _ _ _ _ => F7
    rename News _ _ _ _ => N7
    refine Stop.mk (Fn.use (fn_rows hx8) (by assumption) F7 (by assumption) N7 (by assumption) rfl (by decide +kernel) (by decide +kernel) ?_)
    rintro _ ledZ hZ tkZ ⟨lZ, qZ, cZ, mZ, bZ, nZ, vqZ, vcZ, vmZ, vbZ, nqZ, ncZ, nmZ, nbZ, rfl, rfl, iqZ, icZ, imZ, ibZ⟩ FZ NZ
    obtain ⟨e1, e2, e3, e4⟩ := hr.plain hx8
    rw [← e1] at iqZ
    rw [← e2] at icZ
    rw [← e3] at imZ
    rw [← e4] at ibZ
    obtain ⟨as1, ra⟩ := reads_rows (NZ _ (.tail _ (.tail _ (.tail _ (.tail _ (.tail _ (.tail _ (.tail _ (.tail _ (.tail _ (.head _)))))))))) ).1 (NZ _ (.tail _ (.tail _ (.tail _ (.tail _ (.tail _ (.head _))))))).1 (NZ _ (.tail _ (.tail _ (.tail _ (.tail _ (.tail _ (.tail _ (.head _)))))))).1
      (NZ _ (.tail _ (.tail _ (.tail _ (.tail _ (.tail _ (.tail _ (.tail _ (.head _))))))))).1 (NZ _ (.tail _ (.tail _ (.tail _ (.tail _ (.tail _ (.tail _ (.tail _ (.tail _ (.head _)))))))))).1 iq ic im ib
    obtain ⟨as2, rb⟩ := reads_rows (NZ _ (.head _)).1 (NZ _ (.tail _ (.head _))).1 (NZ _ (.tail _ (.tail _ (.head _)))).1 (NZ _ (.tail _ (.tail _ (.tail _ (.head _))))).1 (NZ _ (.tail _ (.tail _ (.tail _ (.tail _ (.head _)))))).1 iqZ icZ imZ ibZ
    refine eq_alike ra rb (shaped_rows r) (noMix_rows r) (by show callerA.units + 3 + 64 < cLine; decide +kernel) ?_
    clear ra rb
    k_steps
end Mine
end
theorem PySem.Challenge.cw_pg0132_01_holds : PySem.Challenge.rw_pg0132_01.Holds := by
  exact Mine.holds
