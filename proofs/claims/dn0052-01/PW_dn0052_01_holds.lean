import PyProof.Rows.All
import Wide.All
import OpenK.AllK
import Wide.FinOn
import PySem.Challenge.RW_dn0052_01
open PySem PySem.W PyProof.Rows
set_option Elab.async false
set_option maxRecDepth 100000
set_option maxHeartbeats 8000000
set_option linter.unusedVariables false
namespace Mine

open_top hd for PySem.Challenge.rw_dn0052_01

/-- Python's order of two pairs of ints -/
def plt (p q : Int × Int) : Bool := decide (p.1 < q.1 ∨ (p.1 = q.1 ∧ p.2 < q.2))

section
variable {prog : Program} {w : World} {A : Around} {E : Value → Shared → Prop} {s : Shared}

theorem lt_tree {a b : Addr} {oa ob : Obj} {na nb : Nat} {p q : Int × Int} {t1 t2 u1 u2 : Tok} {P : PySem.Fin → Shared → Prop}
    (ha : s.heap.get? a = some oa) (da : oa.data = .seq #[.int p.1 t1, .int p.2 t2] na)
    (hb : s.heap.get? b = some ob) (cb : ob.cls = .type "tuple") (db : ob.data = .seq #[.int q.1 u1, .int q.2 u2] nb)
    (h : P (.done (.ret (.bool (plt p q)))) s) :
    wpAny (model prog w) A (Builtin.«tuple.__lt__» ⟨[.ref a, .ref b], []⟩) P E s := by
  have hTb : s.TypeIs (.ref b) "tuple" := ⟨ob, hb, cb⟩
  show wpAny _ _ (isInstance (.ref b) (.type "tuple") >>= _) _ _ s
  refine wpAny_bind (wpAny_isInstance hTb isSubtype_tuple_tuple ?_)
  simp only [Bool.not_true, Bool.false_eq_true, if_false]
  refine wpAny_bind (wpAny_tupleItemsOf ha da ?_)
  refine wpAny_bind (wpAny_tupleItemsOf hb db ?_)
  show wpAny _ _ (forIn [(Value.int p.1 t1, Value.int q.1 u1), (Value.int p.2 t2, Value.int q.2 u2)] _ _ >>= _) _ _ s
  refine wpAny_bind ?_
  rw [List.forIn_cons]
  refine wpAny_bind (wpAny_bind (wpAny_eqBool_int ?_))
  by_cases h1 : p.1 = q.1
  · rw [show (p.1 == q.1) = true from beq_iff_eq.mpr h1]
    simp only [Bool.not_true, Bool.false_eq_true, if_false]
    refine wpAny_pure ?_
    dsimp only
    rw [List.forIn_cons]
    refine wpAny_bind (wpAny_bind (wpAny_eqBool_int ?_))
    by_cases h2 : p.2 = q.2
    · rw [show (p.2 == q.2) = true from beq_iff_eq.mpr h2]
      simp only [Bool.not_true, Bool.false_eq_true, if_false]
      refine wpAny_pure ?_
      dsimp only
      rw [List.forIn_nil]
      refine wpAny_pure ?_
      have e : plt p q = false := by simp [plt, h1, h2]
      rw [e] at h
      exact wpAny_pure h
    · rw [show (p.2 == q.2) = false from beq_eq_false_iff_ne.mpr h2]
      simp only [Bool.not_false, if_true]
      refine wpAny_bind (wpAny_rule (wpAny_bind (lt_int ?_)))
      have e : plt p q = decide (p.2 < q.2) := by simp [plt, h1]
      rw [e] at h
      exact wpAny_bind (wpAny_pure (wpAny_pure (wpAny_pure (wpAny_pure h))))
  · rw [show (p.1 == q.1) = false from beq_eq_false_iff_ne.mpr h1]
    simp only [Bool.not_false, if_true]
    refine wpAny_bind (wpAny_rule (wpAny_bind (lt_int ?_)))
    have e : plt p q = decide (p.1 < q.1) := by simp [plt, h1]
    rw [e] at h
    exact wpAny_bind (wpAny_pure (wpAny_pure (wpAny_pure (wpAny_pure h))))

theorem lt_pair {a b : Addr} {p q : Int × Int} {t1 t2 u1 u2 : Tok} {Q : Value → Shared → Prop}
    (ha : IsTup s.heap a #[.int p.1 t1, .int p.2 t2]) (hb : IsTup s.heap b #[.int q.1 u1, .int q.2 u2])
    (hu : A.units < cLine) (h : Q (.bool (plt p q)) s) : wpAny (model prog w) A (compareOp .Lt (.ref a) (.ref b)) Q E s := by
  obtain ⟨oa, ha, ca, na, da⟩ := ha
  obtain ⟨ob, hb, cb, nb, db⟩ := hb
  refine cmp_ofLt ?_
  exact wpAny_richCompare_same_room (op := .Lt) ⟨oa, ha, ca⟩ ⟨ob, hb, cb⟩ F.slot_tuple_lt
    (wpAny_call_entry F.slot_tuple_lt ⟨oa, ha, ca⟩ F.entry_tuple_lt (lt_tree ha da hb cb db ⟨_, rfl, (fun e => nomatch e), h⟩) (F.args_tuple_lt_2 _ _)) hu
end

abbrev P := Int × Int

def sd (x : P) (a : Nat) (l : List P) (b : Nat) : List P :=
  if a < b then
    if plt x (l.getD ((b - 1) / 2) (0, 0)) then sd x a (l.set b (l.getD ((b - 1) / 2) (0, 0))) ((b - 1) / 2) else l.set b x
  else l.set b x
termination_by b
decreasing_by omega

def sdF (l : List P) (a b : Nat) : List P := sd (l.getD b (0, 0)) a l b

theorem sd_length (x : P) (a : Nat) (l : List P) (b : Nat) : (sd x a l b).length = l.length := by
  fun_induction sd x a l b with
  | case1 l b h1 h2 ih => rw [ih]; simp
  | case2 l b h1 h2 => simp
  | case3 l b h1 => simp

/-- the smaller child of a place that has one -/
def kid (l : List P) (p : Nat) : Nat :=
  if 2 * p + 2 < l.length ∧ plt (l.getD (2 * p + 1) (0, 0)) (l.getD (2 * p + 2) (0, 0)) = false then 2 * p + 2 else 2 * p + 1

theorem kid_r {l : List P} {p i j : Nat} (h : 2 * p + 2 < l.length) (hi : i = 2 * p + 1) (hj : j = 2 * p + 2) (hl : plt (l.getD i (0, 0)) (l.getD j (0, 0)) = false) : kid l p = 2 * p + 2 := by
  subst hi; subst hj; unfold kid; rw [if_pos ⟨h, hl⟩]
theorem kid_l {l : List P} {p i j : Nat} (hi : i = 2 * p + 1) (hj : j = 2 * p + 2) (hl : plt (l.getD i (0, 0)) (l.getD j (0, 0)) = true) : kid l p = 2 * p + 1 := by
  subst hi; subst hj; unfold kid; rw [if_neg (by rw [hl]; simp)]
theorem kid_n {l : List P} {p : Nat} (h : ¬ 2 * p + 2 < l.length) : kid l p = 2 * p + 1 := by
  unfold kid; rw [if_neg (by rintro ⟨h', _⟩; exact h h')]

theorem kid_gt (l : List P) (p : Nat) : p < kid l p := by unfold kid; split <;> omega
theorem kid_lt (l : List P) (p : Nat) (h : 2 * p + 1 < l.length) : kid l p < l.length := by unfold kid; split <;> omega

/-- down to a leaf, the smaller child each time -/
def desc (l : List P) (p : Nat) : List P × Nat :=
  if 2 * p + 1 < l.length then desc (l.set p (l.getD (kid l p) (0, 0))) (kid l p) else (l, p)
termination_by l.length - p
decreasing_by
  have := kid_gt l p
  simp only [List.length_set]
  omega

theorem desc_length (l : List P) (p : Nat) : (desc l p).1.length = l.length := by
  fun_induction desc l p with
  | case1 l p h ih => rw [ih]; simp
  | case2 l p h => rfl

theorem desc_lt (l : List P) (p : Nat) (h : p < l.length) : (desc l p).2 < l.length := by
  fun_induction desc l p with
  | case1 l p h1 ih =>
    have := ih (by simp only [List.length_set]; exact kid_lt l p h1)
    simpa using this
  | case2 l p h1 => exact h

def suF (l : List P) (p : Nat) : List P := sdF ((desc l p).1.set (desc l p).2 (l.getD p (0, 0))) p (desc l p).2

theorem suF_length (l : List P) (p : Nat) : (suF l p).length = l.length := by
  simp [suF, sdF, sd_length, desc_length]

/-- heapify's steps, from place k - 1 down to 0 -/
def hfy (l : List P) : Nat → List P
  | 0 => l
  | k + 1 => hfy (suF l k) k
def heapF (l : List P) : List P := hfy l (l.length / 2)
theorem hfy_length : ∀ (k : Nat) (l : List P), (hfy l k).length = l.length
  | 0, _ => rfl
  | k + 1, l => by rw [hfy, hfy_length k, suF_length]
theorem heapF_length (l : List P) : (heapF l).length = l.length := hfy_length _ _

/-! the places from i down, level by level -/
def nd (i : Nat) (p : Nat) : Nat := if p = 0 then i else 2 * nd i ((p - 1) / 2) + (if p % 2 = 1 then 1 else 2)
termination_by p
decreasing_by omega
theorem nd_zero (i : Nat) : nd i 0 = i := by rw [nd]; simp
theorem nd_l (i p : Nat) : nd i (2 * p + 1) = 2 * nd i p + 1 := by
  rw [nd, if_neg (by omega), if_pos (by omega)]
  congr 3; omega
theorem nd_r (i p : Nat) : nd i (2 * p + 2) = 2 * nd i p + 2 := by
  rw [nd, if_neg (by omega), if_neg (by omega)]
  congr 3; omega
theorem nd_step (i : Nat) : ∀ p, nd i p < nd i (p + 1) := by
  intro p
  induction p using Nat.strongRecOn with
  | ind p ih =>
    obtain ⟨q, h | h⟩ : ∃ q, p = 2 * q ∨ p = 2 * q + 1 := ⟨p / 2, by omega⟩
    · cases q with
      | zero => subst h; rw [show 2 * 0 + 1 = 2 * 0 + 1 from rfl, nd_l]; simp [nd_zero]; omega
      | succ q =>
        subst h
        rw [show 2 * (q + 1) = 2 * q + 2 by omega, nd_r, show 2 * q + 2 + 1 = 2 * (q + 1) + 1 by omega, nd_l]
        have := ih q (by omega)
        omega
    · subst h
      rw [nd_l, show 2 * q + 1 + 1 = 2 * q + 2 by omega, nd_r]
      omega
theorem nd_mono {i p q : Nat} (h : p < q) : nd i p < nd i q := by
  induction q with
  | zero => omega
  | succ q ih =>
    have := nd_step i q
    by_cases e : p = q
    · subst e; exact this
    · have := ih (by omega); omega
theorem nd_ge (i p : Nat) : p ≤ nd i p := by
  induction p with
  | zero => omega
  | succ p ih => have := nd_step i p; omega

def szRaw (i n : Nat) : Nat := ((List.range n).filter fun p => nd i p < n).length
theorem szF_ex (i n : Nat) : ∃ z, z = szRaw i n := ⟨_, rfl⟩
noncomputable def szF (i n : Nat) : Nat := Classical.choose (szF_ex i n)
theorem szF_raw (i n : Nat) : szF i n = szRaw i n := Classical.choose_spec (szF_ex i n)
theorem filter_down (f : Nat → Bool) (n : Nat) (hf : ∀ p q, p ≤ q → f q = true → f p = true) (hn : ∀ q, n ≤ q → f q = false) :
    ∀ p, f p = true ↔ p < ((List.range n).filter f).length := by
  have key : ∀ n, (∀ p < n, f p = true ↔ p < ((List.range n).filter f).length) ∧ (((List.range n).filter f).length < n → f ((List.range n).filter f).length = false) := by
    intro n
    induction n with
    | zero => simp
    | succ n ih =>
      rw [List.range_succ, List.filter_append]
      by_cases hfn : f n = true
      · have hall : ∀ p < n, f p = true := fun p hp => hf p n (by omega) hfn
        have hlen : ((List.range n).filter f).length = n := by
          rw [List.filter_eq_self.mpr (fun x hx => hall x (List.mem_range.mp hx))]; simp
        have e2 : (List.filter f [n]) = [n] := by simp [hfn]
        rw [e2, List.length_append, hlen]
        refine ⟨fun p hp => ?_, fun h => by simp at h⟩
        by_cases e : p = n
        · subst e; simp [hfn]
        · simp [hall p (by omega)]; omega
      · have hfn' : f n = false := by simpa using hfn
        have e2 : (List.filter f [n]) = [] := by simp [hfn']
        rw [e2, List.append_nil]
        have hle : ((List.range n).filter f).length ≤ n := by
          have := List.length_filter_le f (List.range n); simpa using this
        refine ⟨fun p hp => ?_, fun h => ?_⟩
        · by_cases e : p = n
          · subst e; simp [hfn']; exact hle
          · exact ih.1 p (by omega)
        · by_cases e : ((List.range n).filter f).length = n
          · rw [e]; exact hfn'
          · exact ih.2 (by omega)
  intro p
  by_cases hp : p < n
  · exact (key n).1 p hp
  · have h1 := hn p (by omega)
    have hle : ((List.range n).filter f).length ≤ n := by
      have := List.length_filter_le f (List.range n); simpa using this
    simp [h1]; omega
theorem szF_iff (i n p : Nat) : nd i p < n ↔ p < szF i n := by
  have := filter_down (fun p => decide (nd i p < n)) n (fun p q h h2 => by
    simp at h2 ⊢
    by_cases e : p = q
    · subst e; exact h2
    · have := nd_mono (i := i) (show p < q by omega); omega) (fun q h => by
    simp
    have := nd_ge i q; omega) p
  rw [szF_raw]
  simpa [szRaw] using this
theorem szF_le (i n : Nat) : szF i n ≤ n := by
  have := List.length_filter_le (fun p => decide (nd i p < n)) (List.range n); rw [szF_raw]; simpa [szRaw] using this
theorem szF_pos {i n : Nat} (h : i < n) : 0 < szF i n := (szF_iff i n 0).mp (by rw [nd_zero]; exact h)
noncomputable def belowF (i n : Nat) : List Nat := (List.range (szF i n)).map (nd i)

theorem below_step (i n a : Nat) : (List.range (min (2 * (a + 1) + 1) (szF i n))).map (nd i) = (List.range (min (2 * a + 1) (szF i n))).map (nd i) ++ [2 * nd i a + 1, 2 * nd i a + 2].filter (fun z => decide (z < n)) := by
  have h1 := szF_iff i n (2 * a + 1)
  have h2 := szF_iff i n (2 * a + 2)
  rw [nd_l] at h1
  rw [nd_r] at h2
  by_cases c2 : 2 * a + 2 < szF i n
  · have e : List.filter (fun z => decide (z < n)) [2 * nd i a + 1, 2 * nd i a + 2] = [2 * nd i a + 1, 2 * nd i a + 2] := by
      simp; omega
    rw [e, show min (2 * (a + 1) + 1) (szF i n) = 2 * a + 1 + 1 + 1 by omega, show min (2 * a + 1) (szF i n) = 2 * a + 1 by omega, List.range_succ, List.range_succ]
    simp [nd_l, nd_r, show 2 * a + 1 + 1 = 2 * a + 2 by omega]
  · by_cases c1 : 2 * a + 1 < szF i n
    · have e : List.filter (fun z => decide (z < n)) [2 * nd i a + 1, 2 * nd i a + 2] = [2 * nd i a + 1] := by
        have d1 : decide (2 * nd i a + 1 < n) = true := by simp; omega
        have d2 : decide (2 * nd i a + 2 < n) = false := by simp; omega
        rw [List.filter_cons, d1, List.filter_cons, d2]; rfl
      rw [e, show min (2 * (a + 1) + 1) (szF i n) = 2 * a + 1 + 1 by omega, show min (2 * a + 1) (szF i n) = 2 * a + 1 by omega, List.range_succ]
      simp [nd_l]
    · have e : List.filter (fun z => decide (z < n)) [2 * nd i a + 1, 2 * nd i a + 2] = [] := by
        have d1 : decide (2 * nd i a + 1 < n) = false := by simp; omega
        have d2 : decide (2 * nd i a + 2 < n) = false := by simp; omega
        rw [List.filter_cons, d1, List.filter_cons, d2]; rfl
      rw [e, List.append_nil, show min (2 * (a + 1) + 1) (szF i n) = szF i n by omega, show min (2 * a + 1) (szF i n) = szF i n by omega]

/-- the item at place q goes up to place i, those on the way one place down -/
def un (l : List P) (i : Nat) (x : P) (q : Nat) : List P :=
  if i < q then un (l.set q (l.getD ((q - 1) / 2) (0, 0))) i x ((q - 1) / 2) else l.set i x
termination_by q
decreasing_by omega
def undoF (l : List P) (i k : Nat) : List P := un l i (l.getD (nd i k) (0, 0)) (nd i k)
theorem un_length (l : List P) (i : Nat) (x : P) (q : Nat) : (un l i x q).length = l.length := by
  fun_induction un l i x q with
  | case1 l q h ih => rw [ih]; simp
  | case2 l q h => simp
theorem undoF_length (l : List P) (i k : Nat) : (undoF l i k).length = l.length := un_length _ _ _ _
theorem belowF_length (i n : Nat) : (belowF i n).length = szF i n := by simp [belowF]
theorem belowF_get {i n k : Nat} (h : k < szF i n) : (belowF i n).getD k 0 = nd i k := by
  simp [belowF, h]
theorem nd_lt {i n k : Nat} (h : k < szF i n) : nd i k < n := (szF_iff i n k).mpr h

/-! the steps -/
theorem mem_set_self {l : List P} {i : Nat} {x : P} (h : i < l.length) : x ∈ l.set i x := by
  refine List.mem_of_getElem? (i := i) ?_
  simp [h]
theorem sd_mem (x : P) (a : Nat) (l : List P) (b : Nat) (h : b < l.length) : x ∈ sd x a l b := by
  fun_induction sd x a l b with
  | case1 l b h1 h2 ih => exact ih (by simp; omega)
  | case2 l b h1 h2 => exact mem_set_self h
  | case3 l b h1 => exact mem_set_self h
theorem suF_mem (l : List P) (p : Nat) (h : p < l.length) : l.getD p (0, 0) ∈ suF l p := by
  have h1 := desc_lt l p h
  have h2 := desc_length l p
  unfold suF sdF
  have e : ((desc l p).1.set (desc l p).2 (l.getD p (0, 0))).getD (desc l p).2 (0, 0) = l.getD p (0, 0) := by
    simp [List.getD_eq_getElem?_getD, h1, h2]
  rw [e]
  exact sd_mem _ _ _ _ (by simp; omega)

def pickL (l : List P) (pl : List Nat) : List P := pl.map fun k => l.getD k (0, 0)
def scat (l : List P) (pl : List Nat) (sm : List P) : Nat → List P
  | 0 => l
  | j + 1 => (scat l pl sm j).set (pl.getD j 0) (sm.getD j (0, 0))
theorem scat_length (l : List P) (pl : List Nat) (sm : List P) : ∀ j, (scat l pl sm j).length = l.length
  | 0 => rfl
  | j + 1 => by rw [scat, List.length_set, scat_length l pl sm j]
noncomputable def someF (l : List P) (i : Nat) : List P := suF (pickL l (belowF i l.length)) 0
noncomputable def stepL (l : List P) (i : Nat) : List P := scat l (belowF i l.length) (someF l i) (szF i l.length)
noncomputable def stepJ (l : List P) (i : Nat) : Nat := (someF l i).findIdx fun y => decide (y = l.getD i (0, 0))
noncomputable def stepsG : Nat → List P → List Nat → List P × List Nat
  | 0, l, no => (l, no)
  | k + 1, l, no => stepsG k (stepL l k) (no ++ [stepJ l k])
noncomputable def stepsF (l : List P) : List P × List Nat := ((stepsG (l.length / 2) l []).1, (stepsG (l.length / 2) l []).2.reverse)
theorem pickL_length (l : List P) (pl : List Nat) : (pickL l pl).length = pl.length := by simp [pickL]
theorem someF_length (l : List P) (i : Nat) : (someF l i).length = szF i l.length := by
  unfold someF; rw [suF_length, pickL_length, belowF_length]
theorem stepL_length (l : List P) (i : Nat) : (stepL l i).length = l.length := scat_length _ _ _ _
theorem pickL_zero {l : List P} {i : Nat} (h : i < l.length) : (pickL l (belowF i l.length)).getD 0 (0, 0) = l.getD i (0, 0) := by
  have hz := szF_pos h
  have : (belowF i l.length)[0]? = some i := by simp [belowF, hz, nd_zero]
  simp [pickL, List.getD_eq_getElem?_getD, this]
theorem someF_mem {l : List P} {i : Nat} (h : i < l.length) : l.getD i (0, 0) ∈ someF l i := by
  have hz := szF_pos h
  have := suF_mem (pickL l (belowF i l.length)) 0 (by rw [pickL_length, belowF_length]; exact hz)
  rw [pickL_zero h] at this
  exact this
theorem stepJ_lt {l : List P} {i : Nat} (h : i < l.length) : stepJ l i < szF i l.length := by
  have := List.findIdx_lt_length_of_exists (xs := someF l i) (p := fun y => decide (y = l.getD i (0, 0))) ⟨_, someF_mem h, by simp⟩
  rw [someF_length] at this
  exact this

theorem belowF_lt {i n k : Nat} (h : k < szF i n) : (belowF i n).getD k 0 < n := by rw [belowF_get h]; exact nd_lt h
theorem pickL_take (l : List P) (pl : List Nat) (q : Nat) (h : q < pl.length) : pickL l (pl.take (q + 1)) = pickL l (pl.take q) ++ [l.getD (pl.getD q 0) (0, 0)] := by
  unfold pickL
  rw [List.take_add_one, List.map_append]
  have : pl[q]? = some pl[q] := by simp
  rw [this]
  simp [List.getD_eq_getElem?_getD, this]

theorem set_getD_self {l : List P} {i : Nat} {x : P} (h : l.getD i (0, 0) = x) : l.set i x = l := by
  apply List.ext_getElem?
  intro k
  rw [List.getElem?_set]
  by_cases e : i = k
  · subst e
    by_cases hi : i < l.length
    · simp [hi]
      rw [← h]
      simp [List.getD_eq_getElem?_getD, hi]
    · simp [hi]
  · simp [e]
theorem someF_eq {l : List P} {i : Nat} (z : P) (h : i < l.length) : suF (((pickL l (belowF i l.length)).set 0 z).set 0 (l.getD i (0, 0))) 0 = someF l i := by
  rw [List.set_set, set_getD_self (pickL_zero h)]
  rfl

structure Cx (w : World) (A : Around) (h₀ : Heap) (L : Addr) (k : Nat) : Prop where
  below : ∃ A₀ base outer env, Below A₀ base outer h₀ ∧ A.frames = some (env :: outer) ∧ env.frame = some L ∧ env.scope.kind = .function
  X : (hd.heap_39 w.params).In h₀
  T : ∃ p loose mean mg mb, Top p loose mean mg mb h₀
  room : A.depth + k < recursionLimit
  units : A.units + 70 + 4 * k < cLine
  hh : A.handled = none

def pinL (m : Str → Option Value) : List (Str × Value) → Str → Option Value
  | [] => m
  | (x, v) :: r => fun y => if y = x then some v else pinL m r y
/-- what the calls here never touch -/
def rst (s : Shared) : Array GenState × Drawn × OsState := (s.gens, s.drawn, s.os)
theorem rst_eq {s s' : Shared} (h : rst s' = rst s) : s' = { s with heap := s'.heap, toks := s'.toks } := by
  obtain ⟨h1, g1, d1, t1, o1⟩ := s
  obtain ⟨h2, g2, d2, t2, o2⟩ := s'
  simp only [rst, Prod.mk.injEq] at h
  obtain ⟨rfl, rfl, rfl⟩ := h
  rfl

theorem enter {w : World} {A : Around} {E : Value → Shared → Prop} {s : Shared} {h₀ : Heap} {L : Addr} {k : Nat} {m : Str → Option Value} {news : List (Addr × Obj)} {Q : Value → Shared → Prop}
    {name qual : Str} {params : Arguments} {body : List Stmt} {scope : Scope} {dV kV doc pm cdv ct oc : Value} {an od : Option Addr} {osl : Array (Option Value)} {f : Addr} {args : List Value} {binds : List (Str × Value)}
    (C : Cx w A h₀ L (k + 1)) (F : Fr h₀ L s.heap m) (N : News h₀ L s.heap news)
    (ho : (hd.heap_39 w.params).lookup f = some ⟨oc, od, .func (fnOf name qual params body scope dV kV doc pm an cdv ct), osl⟩) (hcd : codeIn (hd.heap_39 w.params) cdv qual = true)
    (hbind : BindsTo s (fnOf name qual params body scope dV kV doc pm an cdv ct) ⟨args, []⟩ binds) (hloc : ∀ y ∈ binds, scope.names.lookup y.1 = some .local)
    (hco : scope.isCoroutine = false) (hgen : scope.isGenerator = false) (hk : scope.kind = .function) (hcell : ∀ x ∈ scope.names, x.2 ≠ .cell)
    (h : ∀ g L' s₁ (Q' : Value → Shared → Prop), rst s₁ = rst s → Cx w (A.deeper (envOf qual scope L' f cdv)) g L' k → Fr g L' s₁.heap (pinL (fun _ => none) binds.reverse) → News g L' s₁.heap news →
      (∀ v s' m' news', Fr g L' s'.heap m' → News g L' s'.heap news' → (Fr h₀ L s'.heap m → News h₀ L s'.heap news' → Q v s') → Q' v s') →
      wpAny (model Challenge.rw_dn0052_01.row.prog w) (A.deeper (envOf qual scope L' f cdv)) (execs body (envOf qual scope L' f cdv))
        (fun fl s' => Q' (match fl with | .ret v => v | _ => .none) s')
        (fun _ _ => False) s₁) :
    wpAny (model Challenge.rw_dn0052_01.row.prog w) A (call (.ref f) args) Q E s := by
  obtain ⟨A₀, base, outer, env, B, hA, hf, hke⟩ := C.below
  obtain ⟨p, loose, mean, mg, mb, T⟩ := C.T
  refine wpAny_call (code_def B F C.X N T hA hf hke ho hcd (by have := C.room; omega) hbind hloc ?_ hco hgen hk hcell)
  intro g L' h₁ FG F' N' B' X' T'
  refine wpAny_mono (h g L' _ (fun v s' => LeaveK h₀ L m g (fun r s' => match r with | .ok (.ret v) => Q v s' | .ok _ => False | .error e => E e s') v s') rfl ⟨⟨_, _, _, _, B', Around.frames_deeper hA, rfl, hk⟩, X', ⟨_, _, _, _, _, T'⟩, ?_, ?_, C.hh⟩ ?_ N' ?_) (fun _ _ x => x) (fun _ _ x => x.elim)
  · have := C.room; show A.depth + 1 + k < _; omega
  · have := C.units; show A.units + 3 + 70 + 4 * k < _; omega
  · have e : pinL (fun _ => none) binds.reverse = fun y => binds.reverse.lookup y := by
      generalize binds.reverse = l
      induction l with
      | nil => rfl
      | cons p r ih =>
        obtain ⟨x, v⟩ := p
        funext y
        unfold pinL
        rw [List.lookup_cons, ih]
        by_cases e : y = x
        · subst e; simp
        · rw [show (y == x) = false from beq_eq_false_iff_ne.mpr e]; simp [e]
    rw [e]
    exact F'
  · intro v s' m' news' a b c
    exact ⟨L', m', news', a, b, c⟩

theorem enterC {w : World} {A : Around} {E : Value → Shared → Prop} {s : Shared} {h₀ : Heap} {L : Addr} {k : Nat} {m : Str → Option Value} {news : List (Addr × Obj)} {Q : Value → Shared → Prop}
    {name qual : Str} {params : Arguments} {body : List Stmt} {scope : Scope} {dV kV doc pm cdv ct oc : Value} {an od : Option Addr} {osl : Array (Option Value)} {f : Addr} {args : List Value} {binds : List (Str × Value)}
    (C : Cx w A h₀ L (k + 1)) (F : Fr h₀ L s.heap m) (N : News h₀ L s.heap news)
    (ho : (hd.heap_39 w.params).lookup f = some ⟨oc, od, .func (fnOf name qual params body scope dV kV doc pm an cdv ct), osl⟩) (hcd : codeIn (hd.heap_39 w.params) cdv qual = true)
    (hbind : BindsTo s (fnOf name qual params body scope dV kV doc pm an cdv ct) ⟨args, []⟩ binds) (hkind : (binds.all fun y => scope.names.lookup y.1 == some .local || scope.names.lookup y.1 == some .cell) = true)
    (hnd : ((cellsFrom 0 scope.names []).map (·.1)).Nodup)
    (hco : scope.isCoroutine = false) (hgen : scope.isGenerator = false) (hk : scope.kind = .function)
    (h : ∀ g L' s₁ cells (Q' : Value → Shared → Prop), rst s₁ = rst s → Cx w (A.deeper (envOfC qual scope L' f cdv)) g L' k → Fr g L' s₁.heap (bindL (envOfC qual scope L' f cdv).kindOf binds fun _ => none) → News g L' s₁.heap (cells ++ news) →
      CellsAre (bindC (envOfC qual scope L' f cdv).kindOf binds fun _ => none) (cellsFrom (L' + 1) scope.names []) cells → (∀ p ∈ news, p.1 < L') →
      (∀ v s' m' news', Fr g L' s'.heap m' → News g L' s'.heap news' → (Fr h₀ L s'.heap m → News h₀ L s'.heap news' → Q v s') → Q' v s') →
      wpAny (model Challenge.rw_dn0052_01.row.prog w) (A.deeper (envOfC qual scope L' f cdv)) (execs body (envOfC qual scope L' f cdv))
        (fun fl s' => Q' (match fl with | .ret v => v | _ => .none) s')
        (fun _ _ => False) s₁) :
    wpAny (model Challenge.rw_dn0052_01.row.prog w) A (call (.ref f) args) Q E s := by
  obtain ⟨A₀, base, outer, env, B, hA, hf, hke⟩ := C.below
  obtain ⟨p, loose, mean, mg, mb, T⟩ := C.T
  refine wpAny_call (code_defC B F C.X N T hA hf hke ho hcd (by have := C.room; omega) hbind hkind hnd ?_ hco hgen hk)
  intro g L' h₁ tk cells FG F' N' Y B' X' T' l1
  refine wpAny_mono (h g L' _ cells (fun v s' => LeaveK h₀ L m g (fun r s' => match r with | .ok (.ret v) => Q v s' | .ok _ => False | .error e => E e s') v s') rfl ⟨⟨_, _, _, _, B', Around.frames_deeper hA, rfl, hk⟩, X', ⟨_, _, _, _, _, T'⟩, ?_, ?_, C.hh⟩ F' N' Y l1 ?_) (fun _ _ x => x) (fun _ _ x => x.elim)
  · have := C.room; show A.depth + 1 + k < _; omega
  · have := C.units; show A.units + 3 + 70 + 4 * k < _; omega
  · intro v s' m' news' a b c
    exact ⟨L', m', news', a, b, c⟩

/-! the ledger -/
def setN (news : List (Addr × Obj)) (d : Addr) (o : Obj) : List (Addr × Obj) := news.map fun p => if p.1 = d then (d, o) else p

theorem mem_setN_self {news : List (Addr × Obj)} {d : Addr} {o o' : Obj} (h : (d, o) ∈ news) : (d, o') ∈ setN news d o' :=
  List.mem_map.mpr ⟨(d, o), h, by simp⟩
theorem mem_setN_ne {news : List (Addr × Obj)} {d : Addr} {o' : Obj} {p : Addr × Obj} (h : p ∈ news) (hn : p.1 ≠ d) : p ∈ setN news d o' :=
  List.mem_map.mpr ⟨p, h, by simp [hn]⟩
theorem mem_setN {news : List (Addr × Obj)} {d : Addr} {o' : Obj} {p : Addr × Obj} (h : p ∈ setN news d o') : (p = (d, o') ∧ ∃ o, (d, o) ∈ news) ∨ (p ∈ news ∧ p.1 ≠ d) := by
  obtain ⟨q, hq, e⟩ := List.mem_map.mp h
  by_cases h1 : q.1 = d
  · rw [if_pos h1] at e
    exact .inl ⟨e.symm, q.2, by rw [← h1]; exact hq⟩
  · rw [if_neg h1] at e
    subst e
    exact .inr ⟨hq, h1⟩
theorem setN_setN (news : List (Addr × Obj)) (d : Addr) (o o' : Obj) : setN (setN news d o) d o' = setN news d o' := by
  unfold setN
  rw [List.map_map]
  apply List.map_congr_left
  intro p _
  by_cases h : p.1 = d <;> simp [h]

theorem setN_same {h₀ h : Heap} {L d : Addr} {news : List (Addr × Obj)} {o : Obj} (N : News h₀ L h news) (hm : (d, o) ∈ news) : setN news d o = news := by
  have : ∀ p ∈ news, (fun p : Addr × Obj => if p.1 = d then (d, o) else p) p = id p := by
    rintro ⟨a, o'⟩ hp
    by_cases e : a = d
    · subst e
      have h1 := (N _ hp).1
      have h2 := (N _ hm).1
      dsimp only at h1 h2
      rw [h2] at h1
      injection h1 with h1
      simp [h1]
    · simp [e]
  unfold setN
  rw [List.map_congr_left this, List.map_id]
theorem news_setN {h₀ h : Heap} {L d : Addr} {m : Str → Option Value} {news : List (Addr × Obj)} {o o' : Obj} {f : Obj → Obj} (F : Fr h₀ L h m) (N : News h₀ L h news)
    (hm : (d, o) ∈ news) (e : f o = o') (hf : o'.isFreed = false) : Fr h₀ L (h.update d f) m ∧ News h₀ L (h.update d f) (setN news d o') := by
  have D := N (d, o) hm
  obtain ⟨oL, es, ep, hL, r⟩ := F.ns
  refine ⟨⟨⟨oL, es, ep, (Heap.get?_update_ne _ _ _ _ (Ne.symm D.2.1)).trans hL, r⟩, fun b x q => (Heap.get?_update_ne _ _ _ _ fun z => ?_).trans (F.keep b x q), F.above⟩, fun p hp => ?_⟩
  · have := D.2.2; rw [← z, q] at this; cases this
  · rcases mem_setN hp with ⟨rfl, _⟩ | ⟨hp, hn⟩
    · exact ⟨e ▸ Heap.get?_update_self _ D.1 (e ▸ hf), D.2⟩
    · have P := N p hp; exact ⟨(Heap.get?_update_ne _ _ _ _ hn).trans P.1, P.2⟩

/-! pairs of the ledger -/
abbrev pairObj (p : Int × Int) (t1 t2 : Tok) (n : Nat) : Obj := { cls := .type "tuple", data := .seq #[.int p.1 t1, .int p.2 t2] n }
def PairAt (news : List (Addr × Obj)) (a : Addr) (p : Int × Int) : Prop := ∃ t1 t2 n, (a, pairObj p t1 t2 n) ∈ news
def PairIn (news : List (Addr × Obj)) (v : Value) (p : Int × Int) : Prop := ∃ a, v = .ref a ∧ PairAt news a p
def Pairs (news : List (Addr × Obj)) (vs : List Value) (ps : List (Int × Int)) : Prop :=
  vs.length = ps.length ∧ ∀ (i : Nat) v p, vs[i]? = some v → ps[i]? = some p → PairIn news v p

theorem PairAt.mono {news news' : List (Addr × Obj)} {a : Addr} {p : Int × Int} (h : PairAt news a p) (hs : ∀ x ∈ news, x ∈ news') : PairAt news' a p :=
  let ⟨t1, t2, n, hm⟩ := h; ⟨t1, t2, n, hs _ hm⟩
theorem PairIn.mono {news news' : List (Addr × Obj)} {v : Value} {p : Int × Int} (h : PairIn news v p) (hs : ∀ x ∈ news, x ∈ news') : PairIn news' v p :=
  let ⟨a, e, ha⟩ := h; ⟨a, e, ha.mono hs⟩
theorem Pairs.len {news : List (Addr × Obj)} {vs : List Value} {ps : List (Int × Int)} (h : Pairs news vs ps) : vs.length = ps.length := h.1
theorem Pairs.mono {news news' : List (Addr × Obj)} {vs : List Value} {ps : List (Int × Int)} (h : Pairs news vs ps) (hs : ∀ x ∈ news, x ∈ news') : Pairs news' vs ps :=
  ⟨h.1, fun i v p a b => (h.2 i v p a b).mono hs⟩
theorem PairAt.tup {h₀ h : Heap} {L : Addr} {news : List (Addr × Obj)} {a : Addr} {p : Int × Int} (x : PairAt news a p) (N : News h₀ L h news) : ∃ t1 t2, IsTup h a #[.int p.1 t1, .int p.2 t2] :=
  let ⟨t1, t2, n, hm⟩ := x; ⟨t1, t2, _, (N _ hm).1, rfl, n, rfl⟩
theorem PairAt.set {h₀ h : Heap} {L d : Addr} {news : List (Addr × Obj)} {its : Array Value} {n : Nat} {o' : Obj} {a : Addr} {p : Int × Int} (x : PairAt news a p) (N : News h₀ L h news) (hm : (d, listOf its n) ∈ news) : PairAt (setN news d o') a p := by
  obtain ⟨t1, t2, k, hx⟩ := x
  refine ⟨t1, t2, k, mem_setN_ne hx fun e => ?_⟩
  have h1 := (N _ hx).1
  have h2 := (N _ hm).1
  dsimp only at h1 h2 e
  rw [e, h2] at h1
  injection h1 with h1
  injection h1 with h1
  injection h1 with h1
  exact absurd h1 (by decide)
theorem PairIn.set {h₀ h : Heap} {L d : Addr} {news : List (Addr × Obj)} {its : Array Value} {n : Nat} {o' : Obj} {v : Value} {p : Int × Int} (x : PairIn news v p) (N : News h₀ L h news) (hm : (d, listOf its n) ∈ news) : PairIn (setN news d o') v p :=
  let ⟨a, e, ha⟩ := x; ⟨a, e, ha.set N hm⟩
theorem Pairs.set {h₀ h : Heap} {L d : Addr} {news : List (Addr × Obj)} {its : Array Value} {n : Nat} {o' : Obj} {vs : List Value} {ps : List (Int × Int)} (x : Pairs news vs ps) (N : News h₀ L h news) (hm : (d, listOf its n) ∈ news) : Pairs (setN news d o') vs ps :=
  ⟨x.1, fun i v p a b => (x.2 i v p a b).set N hm⟩
theorem PairAt.unset {news : List (Addr × Obj)} {d : Addr} {its : Array Value} {n : Nat} {a : Addr} {p : Int × Int} (x : PairAt (setN news d (listOf its n)) a p) : PairAt news a p := by
  obtain ⟨t1, t2, k, hx⟩ := x
  rcases mem_setN hx with ⟨e, _⟩ | ⟨h, _⟩
  · injection e with _ e
    injection e with e
    injection e with e
    exact absurd e (by decide)
  · exact ⟨t1, t2, k, h⟩
theorem PairIn.unset {news : List (Addr × Obj)} {d : Addr} {its : Array Value} {n : Nat} {v : Value} {p : Int × Int} (x : PairIn (setN news d (listOf its n)) v p) : PairIn news v p :=
  let ⟨a, e, ha⟩ := x; ⟨a, e, ha.unset⟩
theorem Pairs.unset {news : List (Addr × Obj)} {d : Addr} {its : Array Value} {n : Nat} {vs : List Value} {ps : List (Int × Int)} (x : Pairs (setN news d (listOf its n)) vs ps) : Pairs news vs ps :=
  ⟨x.1, fun i v p a b => (x.2 i v p a b).unset⟩
theorem Pairs.drop {news : List (Addr × Obj)} {q : Addr × Obj} {vs : List Value} {ps : List (Int × Int)} (x : Pairs (q :: news) vs ps) (hq : q.2.cls ≠ .type "tuple") : Pairs news vs ps := by
  refine ⟨x.1, fun i v p a b => ?_⟩
  obtain ⟨ad, e, t1, t2, k, hm⟩ := x.2 i v p a b
  refine ⟨ad, e, t1, t2, k, ?_⟩
  rcases List.mem_cons.mp hm with h | h
  · rw [← h] at hq; exact absurd rfl hq
  · exact h
theorem Pairs.tail {news : List (Addr × Obj)} {q : Addr × Obj} {vs : List Value} {ps : List (Int × Int)} (x : Pairs news vs ps) : Pairs (q :: news) vs ps := x.mono fun _ h => .tail _ h
theorem setN_cons {news : List (Addr × Obj)} {q : Addr × Obj} {d : Addr} {o : Obj} (h : q.1 ≠ d) : setN (q :: news) d o = q :: setN news d o := by
  unfold setN; rw [List.map_cons, if_neg h]
theorem setN_adr {news : List (Addr × Obj)} {d : Addr} {o : Obj} {R : Addr → Prop} (h : ∀ p ∈ news, R p.1) : ∀ p ∈ setN news d o, R p.1 := by
  intro p hp
  rcases mem_setN hp with ⟨rfl, o', ho⟩ | ⟨hp, _⟩
  · exact h (d, o') ho
  · exact h _ hp
theorem news_sub {h₀ h : Heap} {L : Addr} {news news' : List (Addr × Obj)} (N : News h₀ L h news) (hs : ∀ p ∈ news', p ∈ news) : News h₀ L h news' := fun p hp => N p (hs p hp)
theorem news_tail {h₀ h : Heap} {L : Addr} {q : Addr × Obj} {news : List (Addr × Obj)} (N : News h₀ L h (q :: news)) : News h₀ L h news := fun p hp => N p (.tail _ hp)
theorem Pairs.put {news : List (Addr × Obj)} {vs : List Value} {ps : List (Int × Int)} {v : Value} {p : Int × Int} (x : Pairs news vs ps) (i : Nat) (hv : PairIn news v p) : Pairs news (vs.set i v) (ps.set i p) := by
  refine ⟨by simp [x.1], fun j u q a b => ?_⟩
  rw [List.getElem?_set] at a b
  by_cases e : i = j
  · subst e
    have hl := x.1
    by_cases hi : i < vs.length
    · have hi' : i < ps.length := by omega
      simp [hi] at a
      simp [hi'] at b
      subst a; subst b; exact hv
    · simp [hi] at a
  · simp [e] at a b
    exact x.2 j u q (by simpa using a) (by simpa using b)
theorem Pairs.nil {news : List (Addr × Obj)} : Pairs news [] [] := ⟨rfl, fun _ _ _ h => by simp at h⟩
theorem Pairs.snoc {news : List (Addr × Obj)} {vs : List Value} {ps : List (Int × Int)} {v : Value} {p : Int × Int} (x : Pairs news vs ps) (hv : PairIn news v p) : Pairs news (vs ++ [v]) (ps ++ [p]) := by
  have hl := x.1
  refine ⟨by simp [hl], fun i u q a b => ?_⟩
  by_cases h : i < vs.length
  · rw [List.getElem?_append_left h] at a
    rw [List.getElem?_append_left (by omega)] at b
    exact x.2 i u q a b
  · rw [List.getElem?_append_right (by omega)] at a
    rw [List.getElem?_append_right (by omega), ← hl] at b
    by_cases e : i - vs.length = 0
    · rw [e] at a b
      simp at a b
      subst a; subst b; exact hv
    · rw [List.getElem?_eq_none (by simp; omega)] at a
      cases a
theorem Pairs.get {news : List (Addr × Obj)} {vs : List Value} {ps : List (Int × Int)} (x : Pairs news vs ps) {i : Nat} (hi : i < ps.length) : ∃ a, vs[i]? = some (.ref a) ∧ PairAt news a (ps.getD i (0, 0)) := by
  have hl : i < vs.length := by have := x.1; omega
  obtain ⟨a, e, ha⟩ := x.2 i vs[i] ps[i] (by simp [hl]) (by simp [hi])
  refine ⟨a, by rw [← e]; simp [hl], ?_⟩
  have : ps.getD i (0, 0) = ps[i] := by simp [hi]
  rw [this]; exact ha

/-! lists of natural numbers -/
def Nats (vs : List Value) (ns : List Nat) : Prop := vs.length = ns.length ∧ ∀ (i : Nat) v n, vs[i]? = some v → ns[i]? = some n → ∃ t, v = .int (n : Int) t
theorem Nats.len {vs : List Value} {ns : List Nat} (h : Nats vs ns) : vs.length = ns.length := h.1
theorem Nats.nil : Nats [] [] := ⟨rfl, fun _ _ _ h => by simp at h⟩
theorem Nats.get {vs : List Value} {ns : List Nat} (x : Nats vs ns) {i : Nat} (hi : i < ns.length) : ∃ t, vs[i]? = some (.int ((ns.getD i 0 : Nat) : Int) t) := by
  have hl : i < vs.length := by have := x.1; omega
  obtain ⟨t, e⟩ := x.2 i vs[i] ns[i] (by simp [hl]) (by simp [hi])
  refine ⟨t, ?_⟩
  have : ns.getD i 0 = ns[i] := by simp [hi]
  rw [this, ← e]; simp [hl]
theorem Nats.cons {vs : List Value} {ns : List Nat} (x : Nats vs ns) (n : Nat) (t : Tok) : Nats (.int (n : Int) t :: vs) (n :: ns) := by
  refine ⟨by simp [x.1], fun i v k a b => ?_⟩
  cases i with
  | zero => simp at a b; subst a; subst b; exact ⟨t, rfl⟩
  | succ i => exact x.2 i v k (by simpa using a) (by simpa using b)
theorem Nats.append {vs us : List Value} {ns ms : List Nat} (x : Nats vs ns) (y : Nats us ms) : Nats (vs ++ us) (ns ++ ms) := by
  refine ⟨by simp [x.1, y.1], fun i v k a b => ?_⟩
  have hl := x.1
  by_cases h : i < vs.length
  · rw [List.getElem?_append_left h] at a
    rw [List.getElem?_append_left (by omega)] at b
    exact x.2 i v k a b
  · rw [List.getElem?_append_right (by omega)] at a
    rw [List.getElem?_append_right (by omega), ← hl] at b
    exact y.2 _ v k a b
theorem Nats.ints : ∀ {vs : List Value} {ns : List Nat}, Nats vs ns → IntsAre vs (ns.map fun (n : Nat) => (n : Int))
  | [], [], _ => .nil
  | [], _ :: _, h => by have := h.1; simp at this
  | _ :: _, [], h => by have := h.1; simp at this
  | v :: vs, n :: ns, h => by
    obtain ⟨t, e⟩ := h.2 0 v n (by simp) (by simp)
    subst e
    have h2 : Nats vs ns := ⟨by have := h.1; simpa using this, fun i u k a b => h.2 (i + 1) u k (by simpa using a) (by simpa using b)⟩
    exact .cons _ t h2.ints

theorem sub_set {l l₀ : List Value} {v : Value} {i : Nat} (h : ∀ x ∈ l, x ∈ l₀) (hv : v ∈ l₀) : ∀ x ∈ l.set i v, x ∈ l₀ := by
  intro x hx
  rcases List.mem_or_eq_of_mem_set hx with hx | rfl
  · exact h x hx
  · exact hv
/-- pairs told over a larger ledger, items out of a smaller one -/
theorem Pairs.base {h₀ h : Heap} {L : Addr} {news cur : List (Addr × Obj)} {vs : List Value} {ps : List (Int × Int)} (x : Pairs cur vs ps) (N : News h₀ L h cur) (hs : ∀ p ∈ news, p ∈ cur) (hv : ∀ v ∈ vs, ∃ q, PairIn news v q) : Pairs news vs ps := by
  refine ⟨x.1, fun i v p a b => ?_⟩
  obtain ⟨q, ad, e, t1, t2, k, hm⟩ := hv v (List.mem_of_getElem? a)
  obtain ⟨ad', e', u1, u2, k', hm'⟩ := x.2 i v p a b
  have : ad' = ad := by rw [e] at e'; injection e' with e'; exact e'.symm
  subst this
  have h1 := (N _ (hs _ hm)).1
  have h2 := (N _ hm').1
  dsimp only at h1 h2
  rw [h1] at h2
  injection h2 with h2
  injection h2 with _ _ h2
  injection h2 with h2
  have h3 : [Value.int q.1 t1, Value.int q.2 t2] = [Value.int p.1 u1, Value.int p.2 u2] := by
    have := congrArg Array.toList h2
    simpa using this
  simp at h3
  have : q = p := Prod.ext h3.1.1 h3.2.1
  subst this
  exact ⟨ad', e, t1, t2, k, hm⟩
theorem Pairs.in {news : List (Addr × Obj)} {vs : List Value} {ps : List (Int × Int)} (x : Pairs news vs ps) : ∀ v ∈ vs, ∃ q, PairIn news v q := by
  intro v hv
  obtain ⟨i, hi, e⟩ := List.getElem_of_mem hv
  have : i < ps.length := by have := x.1; omega
  exact ⟨_, x.2 i v ps[i] (by rw [← e]; simp) (by simp [this])⟩

theorem Fr.pin {h₀ h : Heap} {L : Addr} {m : Str → Option Value} {x : Str} {v : Option Value} (F : Fr h₀ L h m) (e : m x = v) : Fr h₀ L h (fun y => if y = x then v else m y) := by
  have : (fun y => if y = x then v else m y) = m := by
    funext y
    by_cases h : y = x
    · subst h; simp [e]
    · simp [h]
  rw [this]; exact F

theorem pinL_eq (m : Str → Option Value) : ∀ l : List (Str × Value), (∀ p ∈ l, m p.1 = some p.2) → pinL m l = m
  | [], _ => rfl
  | (x, v) :: r, h => by
    have ih := pinL_eq m r fun p hp => h p (.tail _ hp)
    have h1 := h (x, v) (.head _)
    funext y
    unfold pinL
    by_cases e : y = x
    · subst e; simp [h1]
    · simp [e, ih]
theorem Fr.pins {h₀ h : Heap} {L : Addr} {m : Str → Option Value} (l : List (Str × Value)) (F : Fr h₀ L h m) (e : ∀ p ∈ l, m p.1 = some p.2) : Fr h₀ L h (pinL m l) := by
  rw [pinL_eq m l e]; exact F

theorem Fr.pins' {h₀ h : Heap} {L : Addr} {m : Str → Option Value} {x : Str} {v : Option Value} (l : List (Str × Value)) (F : Fr h₀ L h (fun y => if y = x then v else m y)) (e : ∀ p ∈ l, m p.1 = some p.2) : Fr h₀ L h (fun y => if y = x then v else pinL m l y) := by
  rw [pinL_eq m l e]; exact F

section
variable {prog : Program} {w : World} {A : Around} {E : Value → Shared → Prop} {s : Shared} {h₀ : Heap} {L D : Addr} {m : Str → Option Value} {news news₀ : List (Addr × Obj)} {vs : List Value} {ps : List (Int × Int)} {n : Nat} {k : Int} {t u : Tok}

theorem get_pair {value slice : Expr} {Q : Value → Shared → Prop} (N : News h₀ L s.heap news) (hm : (D, listOf vs.toArray n) ∈ news) (hP : Pairs news₀ vs ps) (h0 : 0 ≤ k) (h1 : k < ps.length) (hfit : ps.length < 1000)
    (h : ∀ a, vs[k.toNat]? = some (.ref a) → PairAt news₀ a (ps.getD k.toNat (0, 0)) → Q (.ref a) s)
    (hs : subscripted slice false (.ref D) (.int k u) = operate [.ref D, .int k u] (getItem (.ref D) (.int k u)) := by with_unfolding_all rfl) (hg : ∀ r, letTemporaryGo value (.ref D) r = pure () := by intro _; with_unfolding_all rfl) :
    wpAny (model prog w) A (subscriptTail value slice (.ref D) (.int k u)) Q E s := by
  obtain ⟨a, e, ha⟩ := hP.get (i := k.toNat) (by omega)
  exact kim_list N hm rfl rfl h0 (by omega) e (h a e ha) hs hg

theorem get_nat {ns : List Nat} {value slice : Expr} {Q : Value → Shared → Prop} (N : News h₀ L s.heap news) (hm : (D, listOf vs.toArray n) ∈ news) (hP : Nats vs ns) (h0 : 0 ≤ k) (h1 : k < ns.length) (hfit : ns.length < 1000)
    (h : ∀ t, Q (.int ((ns.getD k.toNat 0 : Nat) : Int) t) s)
    (hs : subscripted slice false (.ref D) (.int k u) = operate [.ref D, .int k u] (getItem (.ref D) (.int k u)) := by with_unfolding_all rfl) (hg : ∀ r, letTemporaryGo value (.ref D) r = pure () := by intro _; with_unfolding_all rfl) :
    wpAny (model prog w) A (subscriptTail value slice (.ref D) (.int k u)) Q E s := by
  obtain ⟨t, e⟩ := hP.get (i := k.toNat) (by omega)
  exact kim_list N hm rfl rfl h0 (by omega) e (h t) hs hg

theorem lt_at {Q : Value → Shared → Prop} {a b : Addr} {p q : Int × Int} (N : News h₀ L s.heap news) (ha : PairAt news a p) (hb : PairAt news b q) (hu : A.units < cLine) (h : Q (.bool (plt p q)) s) :
    wpAny (model prog w) A (compareOp .Lt (.ref a) (.ref b)) Q E s := by
  obtain ⟨t1, t2, xa⟩ := ha.tup N
  obtain ⟨u1, u2, xb⟩ := hb.tup N
  exact lt_pair xa xb hu h

theorem rshift1 {hh : Heap} {gg : Array GenState} {dd : Drawn} {kk : Nat} {oo : OsState} {Q : Value → Shared → Prop} {x : Int} (h : ∀ t tk, Q (.int (x / 2) t) ⟨hh, gg, dd, tk, oo⟩) : wpAny (model prog w) A (binaryOp .RShift (.int x t) (.int 1 u)) Q E ⟨hh, gg, dd, kk, oo⟩ := by
  refine rshift_int (by decide) ?_
  have e : Int.fdiv x (2 ^ Int.toNat 1) = x / 2 := by
    show Int.fdiv x 2 = x / 2
    exact Int.fdiv_eq_ediv_of_nonneg x (by decide)
  rw [e]
  exact h _ _
theorem half {hh : Heap} {gg : Array GenState} {dd : Drawn} {kk : Nat} {oo : OsState} {Q : Value → Shared → Prop} {x : Int} (hx : x < 2 ^ 62) (hx' : -(2 ^ 62) < x) (h : ∀ t tk, Q (.int (x / 2) t) ⟨hh, gg, dd, tk, oo⟩) : wpAny (model prog w) A (binaryOp .FloorDiv (.int x t) (.int 2 u)) Q E ⟨hh, gg, dd, kk, oo⟩ := by
  refine floordiv_int (by decide) ?_
  have e : Int.fdiv x 2 = x / 2 := Int.fdiv_eq_ediv_of_nonneg x (by decide)
  rw [e]
  exact h _ _
theorem half_n {hh : Heap} {gg : Array GenState} {dd : Drawn} {kk : Nat} {oo : OsState} {Q : Value → Shared → Prop} {x : Nat} (hx : x < 1000) (h : ∀ t tk, Q (.int ((x / 2 : Nat) : Int) t) ⟨hh, gg, dd, tk, oo⟩) : wpAny (model prog w) A (binaryOp .FloorDiv (.int (x : Int) t) (.int 2 u)) Q E ⟨hh, gg, dd, kk, oo⟩ :=
  half (by omega) (by omega) fun t tk => (show (x : Int) / 2 = ((x / 2 : Nat) : Int) by omega) ▸ h t tk
theorem sub_i {hh : Heap} {gg : Array GenState} {dd : Drawn} {kk : Nat} {oo : OsState} {Q : Value → Shared → Prop} {x y : Int} (h : ∀ t tk, Q (.int (x - y) t) ⟨hh, gg, dd, tk, oo⟩) : wpAny (model prog w) A (binaryOp .Sub (.int x t) (.int y u)) Q E ⟨hh, gg, dd, kk, oo⟩ := SiftDown.sub_int (h _ _)
theorem add_i {hh : Heap} {gg : Array GenState} {dd : Drawn} {kk : Nat} {oo : OsState} {Q : Value → Shared → Prop} {x y : Int} (h : ∀ t tk, Q (.int (x + y) t) ⟨hh, gg, dd, tk, oo⟩) : wpAny (model prog w) A (binaryOp .Add (.int x t) (.int y u)) Q E ⟨hh, gg, dd, kk, oo⟩ := add_int (h _ _)
theorem iadd_i {hh : Heap} {gg : Array GenState} {dd : Drawn} {kk : Nat} {oo : OsState} {Q : Value → Shared → Prop} {x y : Int} (h : ∀ t tk, Q (.int (x + y) t) ⟨hh, gg, dd, tk, oo⟩) : wpAny (model prog w) A (inplaceOp .Add (.int x t) (.int y u)) Q E ⟨hh, gg, dd, kk, oo⟩ := iadd_int (h _ _)
theorem mul_i {hh : Heap} {gg : Array GenState} {dd : Drawn} {kk : Nat} {oo : OsState} {Q : Value → Shared → Prop} {y : Int} (h : ∀ t tk, Q (.int (2 * y) t) ⟨hh, gg, dd, tk, oo⟩) : wpAny (model prog w) A (binaryOp .Mult (.int 2 t) (.int y u)) Q E ⟨hh, gg, dd, kk, oo⟩ := mul_int (h _ _)
theorem const_i {hh : Heap} {gg : Array GenState} {dd : Drawn} {kk : Nat} {oo : OsState} {Q : Value → Shared → Prop} {x : Int} {env : Env} {kd : Nat} {pos : Pos} (h : ∀ t tk, Q (.int x t) ⟨hh, gg, dd, tk, oo⟩) : wpAny (model prog w) A (eval (.Constant (.int x) kd pos) env) Q E ⟨hh, gg, dd, kk, oo⟩ := wpAny_Constant_int (h _ _)

theorem len_l {hh : Heap} {gg : Array GenState} {dd : Drawn} {kk : Nat} {oo : OsState} {j : Nat} {Q : Value → Shared → Prop} (N : News h₀ L hh news) (hm : (D, listOf vs.toArray n) ∈ news) (hj : vs.length = j) (hfit : j < 1000)
    (h : ∀ t tk, Q (.int (j : Int) t) ⟨hh, gg, dd, tk, oo⟩) : wpAny (model prog w) A (call (.builtin "len") [.ref D]) Q E ⟨hh, gg, dd, kk, oo⟩ := by
  refine len_list (items := vs.toArray) ⟨_, (N _ hm).1, rfl, n, rfl⟩ (by simp; omega) ?_
  have e : vs.toArray.size = j := by simpa using hj
  rw [e]
  exact h _ _

theorem set_item {Q : Unit → Shared → Prop} {v : Value} (F : Fr h₀ L s.heap m) (N : News h₀ L s.heap news) (hm : (D, listOf vs.toArray n) ∈ news) (h0 : 0 ≤ k) (h1 : k < vs.length) (hfit : vs.length < 1000)
    (h : ∀ s', rst s' = rst s → Fr h₀ L s'.heap m → News h₀ L s'.heap (setN news D (listOf (vs.set k.toNat v).toArray n)) → Q () s') :
    wpAny (model prog w) A (setItem (.ref D) (.int k t) v) Q E s := by
  have z := N _ hm
  refine ki_setAt z.1 h0 (by omega) (by simpa using h1) ?_
  have e : Obj.mapSeq (·.setIfInBounds k.toNat v) (listOf vs.toArray n) = listOf (vs.set k.toNat v).toArray n := by
    simp [Obj.mapSeq]
  obtain ⟨F', N'⟩ := news_setN (f := Obj.mapSeq (·.setIfInBounds k.toNat v)) F N hm e rfl
  exact h _ rfl F' N'

theorem store_l {Q : Unit → Shared → Prop} {a : Addr} {cn x : Str} {cs : Scope} {ccd v : Value} {cl : List (Str × Addr)} (F : Fr h₀ L s.heap m) (N : News h₀ L s.heap news)
    (h : ∀ s', rst s' = rst s → Fr h₀ L s'.heap (fun y => if y = x then some v else m y) → News h₀ L s'.heap news → Q () s')
    (hk : cs.kind = .function := by rfl) (hx : (envX cn cs L a ccd cl).kindOf x = some .local := by rfl) : wpAny (model prog w) A (storeName (envX cn cs L a ccd cl) x v) Q E s :=
  storeX_L F N (fun h' F' N' => h _ rfl F' N') hk hx

def WEnd (h₀ : Heap) (L : Addr) (s : Shared) (J : Nat → (Str → Option Value) → List (Addr × Obj) → Prop) (n : Nat) (s₃ : Shared) : Prop :=
  ∃ m₂ news₂ n', rst s₃ = rst s ∧ Fr h₀ L s₃.heap m₂ ∧ News h₀ L s₃.heap news₂ ∧ n' < n ∧ J n' m₂ news₂
def WPost (h₀ : Heap) (L : Addr) (s : Shared) (J : Nat → (Str → Option Value) → List (Addr × Obj) → Prop) (Q : Flow → Shared → Prop) (n : Nat) (f : Flow) (s₃ : Shared) : Prop :=
  match f with
  | .next | .cont => WEnd h₀ L s J n s₃
  | .brk => Q .next s₃
  | .ret v => Q (.ret v) s₃

theorem while_inv {test : Expr} {body : List Stmt} {pos : Pos} {env : Env} {Q : Flow → Shared → Prop} (J : Nat → (Str → Option Value) → List (Addr × Obj) → Prop) {n₀ : Nat}
    (F : Fr h₀ L s.heap m) (N : News h₀ L s.heap news) (hJ : J n₀ m news)
    (turn : ∀ n m₁ news₁ s₁, rst s₁ = rst s → Fr h₀ L s₁.heap m₁ → News h₀ L s₁.heap news₁ → J n m₁ news₁ →
      wpAny (model prog w) A (isTrue test env (eval test env)) (fun b s₂ =>
        if b = true then wpAny (model prog w) A (execs body env) (WPost h₀ L s J Q n) (fun _ _ => False) s₂ else Q .next s₂) (fun _ _ => False) s₁) :
    wpAny (model prog w) A (exec (.While test body [] pos) env) Q (fun _ _ => False) s := by
  refine While_inv2 J F N hJ ?_ PassesOwn.never
  intro n m₁ news₁ h₁ tk₁ F₁ N₁ J₁
  refine wpAny_mono (turn n m₁ news₁ _ rfl F₁ N₁ J₁) (fun b s₂ h₂ => ?_) (fun _ _ x => x)
  cases b with
  | false => simpa using h₂
  | true =>
    simp only [if_true] at h₂ ⊢
    refine wpAny_mono h₂ (fun f s₃ h₃ => ?_) (fun _ _ x => x)
    cases f with
    | next =>
      obtain ⟨m₂, news₂, n', e, F₂, N₂, hn, J₂⟩ := h₃
      exact ⟨s₃.heap, s₃.toks, m₂, news₂, n', rst_eq e, F₂, N₂, hn, J₂⟩
    | cont =>
      obtain ⟨m₂, news₂, n', e, F₂, N₂, hn, J₂⟩ := h₃
      exact ⟨s₃.heap, s₃.toks, m₂, news₂, n', rst_eq e, F₂, N₂, hn, J₂⟩
    | brk => exact h₃
    | ret v => exact h₃
end

/-! ranges and for loops over them -/
abbrev rangeObj (a b c : Int) (t u v : Tok) : Obj := { cls := .type "range", dict := none, data := .fields #[.int a t, .int b u, .int c v], slots := #[] }
abbrev rngIt (x left step : Int) : Obj := { cls := .type "range_iterator", dict := none, data := .fields #[rawInt x, rawInt left, rawInt step], slots := #[] }

theorem sub_rngit_reversed : isSubtype (.type "range_iterator") (.type "reversed") = pure false := by rw [isSubtype_type]; kernel_rfl

section
variable {prog : Program} {w : World} {A : Around} {E : Value → Shared → Prop} {s : Shared} {h₀ : Heap} {L D : Addr} {m : Str → Option Value} {news : List (Addr × Obj)}

theorem range_l {Q : Value → Shared → Prop} {b : Int} {t : Tok} (F : Fr h₀ L s.heap m) (N : News h₀ L s.heap news)
    (h : ∀ r s' t u v, rst s' = rst s → Fr h₀ L s'.heap m → News h₀ L s'.heap ((r, rangeObj 0 b 1 t u v) :: news) → (∀ p ∈ news, p.1 < r) → Q (.ref r) s') :
    wpAny (model prog w) A (call (.type "range") [.int b t]) Q E s :=
  call_range_1 (h _ _ _ _ _ rfl (F.push _) (N.push F _) fun p hp => Heap.lt_size (N p hp).1)
theorem range2_l {Q : Value → Shared → Prop} {a b : Int} {t u : Tok} (F : Fr h₀ L s.heap m) (N : News h₀ L s.heap news)
    (h : ∀ r s' t u v, rst s' = rst s → Fr h₀ L s'.heap m → News h₀ L s'.heap ((r, rangeObj a b 1 t u v) :: news) → (∀ p ∈ news, p.1 < r) → Q (.ref r) s') :
    wpAny (model prog w) A (call (.type "range") [.int a t, .int b u]) Q E s :=
  call_range_2 (h _ _ _ _ _ rfl (F.push _) (N.push F _) fun p hp => Heap.lt_size (N p hp).1)

theorem size01 {n : Nat} : Builtin.Range.rangeSize 0 n 1 = n := by
  unfold Builtin.Range.rangeSize
  simp
  omega
theorem small01 {n : Nat} (hn : n < 1000) : Builtin.Range.small 0 n 1 = true := by
  unfold Builtin.Range.small
  rw [size01]
  unfold Builtin.Range.rangeFitsLong
  simp
  omega

theorem rev_meets (r : Addr) (a b c : Int) (t u v : Tok) (hc0 : ¬ (!(Builtin.Range.rangeFitsLong a && Builtin.Range.rangeFitsLong b && Builtin.Range.rangeFitsLong c && Builtin.Range.rangeFitsLong (-c) && Builtin.Range.rangeFitsLong (a - c) && Builtin.Range.rangeFitsLong (Builtin.Range.rangeSize a b c))) = true) :
    Meets (Builtin.«range.__reversed__» ⟨[.ref r], []⟩) (fun _ R s => s.heap.get? r = some (rangeObj a b c t u v) ∧ R (.ok (.ret (Value.ref s.heap.objs.size))) { s with heap := s.heap.push { cls := Value.type (if (Builtin.Range.rangeFitsLong a && Builtin.Range.rangeFitsLong b && Builtin.Range.rangeFitsLong c && Builtin.Range.rangeFitsLong (-c) && Builtin.Range.rangeFitsLong (a - c) && Builtin.Range.rangeFitsLong (Builtin.Range.rangeSize a b c)) = true then "range_iterator" else "longrange_iterator"), data := .fields #[rawInt (a + (Builtin.Range.rangeSize a b c - 1) * c), rawInt (Builtin.Range.rangeSize a b c), rawInt (-c)] } }) :=
  .of_wp fun prog w A R s h => by obtain ⟨hp, g, d, tk, os⟩ := s; obtain ⟨hl, h⟩ := h; wp_walk; exact ⟨_, rfl, h⟩

theorem call_range_rev {Q : Value → Shared → Prop} {r : Addr} {n : Nat} {t u v : Tok} (hr : s.heap.get? r = some (rangeObj 0 n 1 t u v)) (hn : n < 1000)
    (h : Q (.ref s.heap.objs.size) { s with heap := s.heap.push (rngIt ((n : Int) - 1) n (-1)) }) : wpAny (model prog w) A (call (.builtin "range.__reversed__") [.ref r]) Q E s := by
  have hT : s.TypeIs (.ref r) "range" := ⟨_, hr, rfl⟩
  have hc : (Builtin.Range.rangeFitsLong 0 && Builtin.Range.rangeFitsLong n && Builtin.Range.rangeFitsLong 1 && Builtin.Range.rangeFitsLong (-1) && Builtin.Range.rangeFitsLong (0 - 1) && Builtin.Range.rangeFitsLong (Builtin.Range.rangeSize 0 n 1)) = true := by
    rw [size01]; unfold Builtin.Range.rangeFitsLong; simp; omega
  refine call_meets F.slot_range_reversed hT F.entry_range_reversed (F.args_range_reversed_1 _) (rev_meets r 0 n 1 t u v (by rw [hc]; decide)) ⟨hr, ?_⟩
  rw [hc]
  simp only [size01, if_true]
  have e : (0 : Int) + ((n : Int) - 1) * 1 = (n : Int) - 1 := by omega
  rw [e]
  exact h

theorem code_rev_new {Q₁ : Value → Shared → Prop} {r : Addr} {n : Nat} {t u v : Tok} (hr : s.heap.get? r = some (rangeObj 0 n 1 t u v)) (hn : n < 1000)
    (h : Q₁ (.ref s.heap.objs.size) { s with heap := s.heap.push (rngIt ((n : Int) - 1) n (-1)) }) :
    codeAny (model prog w) A (.call (.builtin "reversed.__new__") ⟨[.type "reversed", .ref r], []⟩) (wants Q₁ E) s := by
  have hT : s.TypeIs (.ref r) "range" := ⟨_, hr, rfl⟩
  refine codeAny_of_tree ?_
  show wpAny _ A.in1 (do checkBuiltinCall "reversed.__new__" ⟨[.type "reversed", .ref r], []⟩; again (.builtin "reversed.__new__" ⟨[.type "reversed", .ref r], []⟩)) _ _ s
  refine wpAny_bind (wpAny_of_eq (F.newCall_reversed_1 _) (wpAny_pure ⟨plainId_quiet F.plain_reversed_new _, codeAny_builtin F.entry_reversed_new ?_⟩))
  rw [Around.under_plainId F.plain_reversed_new _]
  unfold Builtin.«reversed.__new__»
  refine wpAny_bind (wpAny_of_eq (newClass_reversed _) ?_)
  try dsimp only
  refine wpAny_bind (wpAny_of_eq (a := ()) (by first | rfl | kernel_rfl) ?_)
  refine wpAny_bind (wpAny_of_eq (a := ()) (by first | rfl | kernel_rfl) ?_)
  try dsimp only
  refine wpAny_bind (wpAny_specialOf hT F.slot_range_reversed.lookup ?_)
  try dsimp only
  refine wpAny_bind (wpAny_of_eq (F.slot_range_reversed.bind _) ?_)
  try dsimp only
  first
  | rw [if_neg (show ¬ ((Value.builtin "range.__reversed__" == Value.none) = true) from Bool.false_ne_true)]
  | (show wpAny _ _ (if (Value.builtin "range.__reversed__" == Value.none) = true then _ else _) _ _ _; rw [if_neg (show ¬ ((Value.builtin "range.__reversed__" == Value.none) = true) from Bool.false_ne_true)])
  refine wpAny_bind (wpAny_rule ?_)
  refine wpAny_bind (m := runValue (.call (.builtin "range.__reversed__") ⟨[.ref r], []⟩)) (show wpAny _ _ (call (.builtin "range.__reversed__") [.ref r]) _ _ _ from call_range_rev hr hn ?_)
  first
  | exact wpAny_pure h
  | exact wpAny_bind (wpAny_pure (wpAny_pure h))

theorem reversed_l {Q : Value → Shared → Prop} {r : Addr} {n : Nat} {t u v : Tok} (F : Fr h₀ L s.heap m) (N : News h₀ L s.heap news) (hm : (r, rangeObj 0 n 1 t u v) ∈ news) (hn : n < 1000)
    (h : ∀ I s', rst s' = rst s → Fr h₀ L s'.heap m → News h₀ L s'.heap ((I, rngIt ((n : Int) - 1) n (-1)) :: news) → (∀ p ∈ news, p.1 < I) → Q (.ref I) s') :
    wpAny (model prog w) A (call (.type "reversed") [.ref r]) Q E s := by
  refine callType_other (U := "range_iterator") (Q₁ := fun obj s₁ => obj = .ref s.heap.objs.size ∧ s₁ = { s with heap := s.heap.push (rngIt ((n : Int) - 1) n (-1)) }) (by decide +kernel) PySem.F.create_reversed ⟨_, _, PySem.F.mro_reversed⟩ PySem.F.made_reversed sub_rngit_reversed (PySem.F.typeCall_reversed_1 _) (code_rev_new (N _ hm).1 hn ⟨rfl, rfl⟩) ?_
  rintro obj s₁ ⟨rfl, rfl⟩
  exact ⟨⟨_, Heap.get?_push_size _ rfl, rfl⟩, h _ _ rfl (F.push _) (N.push F _) fun p hp => Heap.lt_size (N p hp).1⟩
end

def FEnd (h₀ : Heap) (L : Addr) (s : Shared) (J : Nat → (Str → Option Value) → List (Addr × Obj) → Prop) (i : Nat) (pI : Addr × Obj) (s₃ : Shared) : Prop :=
  ∃ m₂ news₂, rst s₃ = rst s ∧ Fr h₀ L s₃.heap m₂ ∧ News h₀ L s₃.heap (pI :: news₂) ∧ (∀ p ∈ news₂, p.1 ≠ pI.1) ∧ J (i + 1) m₂ news₂
def FPost (h₀ : Heap) (L : Addr) (s : Shared) (J : Nat → (Str → Option Value) → List (Addr × Obj) → Prop) (Q : Flow → Shared → Prop) (i : Nat) (pI : Addr × Obj) (f : Flow) (s₃ : Shared) : Prop :=
  match f with
  | .next | .cont => FEnd h₀ L s J i pI s₃
  | .brk => Q .next s₃
  | .ret v => Q (.ret v) s₃

section
variable {prog : Program} {w : World} {A : Around} {E : Value → Shared → Prop} {s : Shared} {h₀ : Heap} {m : Str → Option Value} {news : List (Addr × Obj)}

theorem for_rng {env : Env} {x : Str} {body : List Stmt} {Q : Flow → Shared → Prop} {I : Addr} {a c : Int} {n : Nat} (J : Nat → (Str → Option Value) → List (Addr × Obj) → Prop)
    (hh : A.handled = none) (hit : s.heap.get? I = some (rngIt a n c)) (h0 : h₀.get? I = none) (hne : ∀ p ∈ news, p.1 ≠ I) (F : Fr h₀ env.locals s.heap m) (N : News h₀ env.locals s.heap news) (hJ : J 0 m news)
    (turn : ∀ i t m₁ news₁ s₁ oI, oI.cls = .type "range_iterator" → rst s₁ = rst s → i < n → J i m₁ news₁ → (∀ p ∈ news₁, p.1 ≠ I) → Fr h₀ env.locals s₁.heap (fun y => if y = x then some (.int (a + i * c) t) else m₁ y) → News h₀ env.locals s₁.heap ((I, oI) :: news₁) →
      wpAny (model prog w) A (execs body env) (FPost h₀ env.locals s J Q i (I, oI)) E s₁)
    (done : ∀ m₁ news₁ s₁, rst s₁ = rst s → Fr h₀ env.locals s₁.heap m₁ → News h₀ env.locals s₁.heap news₁ → (∀ p ∈ news₁, p.1 ≠ I) → J n m₁ news₁ → Q .next s₁) :
    LoopAtV prog w A h₀ env x body Q E (.ref I) s := by
  have hIL : env.locals ≠ I := by
    intro e
    obtain ⟨oL, es, ep, hL, hLd, _⟩ := F.ns
    rw [e, hit] at hL
    injection hL with hL
    subst hL
    cases hLd
  refine ⟨I, [I], [I], n, _, _, m, news, J, rfl, Walks.range hh I a c n, by simpa using hIL, ?_, ?_, by simpa using hit, F, N, hJ, ?_, ?_⟩
  · intro b hb
    rw [List.mem_singleton.mp hb]; exact h0
  · intro p hp hb
    exact hne p hp (List.mem_singleton.mp hb)
  · rintro i v m₁ news₁ s₁ own ⟨h', tk, rfl⟩ hi ⟨t, rfl⟩ hJ₁ hoff hown hget hall hst F₁ N₁
    have hn₁ : ∀ p ∈ news₁, p.1 ≠ I := fun p hp e => hoff p hp (by rw [e]; exact List.mem_singleton.mpr rfl)
    have hmem := hall I (List.mem_singleton.mpr rfl) h0 _ hst
    refine wpAny_mono (turn i t m₁ news₁ _ (rngIt (a + ((i + 1 : Nat) : Int) * c) ((n : Int) - ((i + 1 : Nat) : Int)) c) rfl rfl hi hJ₁ hn₁ F₁ (fun p hp => ?_)) (fun f s₃ h₃ => ?_) (fun _ _ x => x)
    · rcases List.mem_cons.mp hp with rfl | hp
      · exact N₁ _ (List.mem_append_left _ hmem)
      · exact N₁ _ (List.mem_append_right _ hp)
    · have fin : FEnd h₀ env.locals s J i (I, rngIt (a + ((i + 1 : Nat) : Int) * c) ((n : Int) - ((i + 1 : Nat) : Int)) c) s₃ → LoopStepU h₀ env.locals [I] own (J (i + 1)) { s with heap := h', toks := tk } .next s₃ := by
        rintro ⟨m₂, news₂, e, F₂, N₂, hn₂, hJ₂⟩
        refine ⟨rfl, s₃.heap, s₃.toks, m₂, news₂, rst_eq (s := { s with heap := h', toks := tk }) e, F₂, fun p hp => ?_, fun p hp hb => hn₂ p hp (List.mem_singleton.mp hb), hJ₂⟩
        rcases List.mem_append.mp hp with hp | hp
        · have e1 : p.1 = I := List.mem_singleton.mp (hown p hp)
          have e2 := hget p hp
          rw [e1] at e2
          have e3 : some p.2 = some _ := e2.symm.trans hst
          have e4 : p = (I, rngIt (a + ((i + 1 : Nat) : Int) * c) ((n : Int) - ((i + 1 : Nat) : Int)) c) := Prod.ext e1 (Option.some.inj e3)
          rw [e4]
          exact N₂ _ (.head _)
        · exact N₂ p (.tail _ hp)
      cases f with
      | ret v => exact .ret h₃
      | brk => exact .brk h₃
      | next => exact .next (fin h₃)
      | cont => exact .cont (fin h₃)
  · intro h' tk m' news' F' N' hoff hJ'
    exact done m' news' _ rfl F' N' (fun p hp e => hoff p hp (by rw [e]; exact List.mem_singleton.mpr rfl)) hJ'

theorem iter_it {Q : Value → Shared → Prop} {L I : Addr} {x left step : Int} (N : News h₀ L s.heap news) (hm : (I, rngIt x left step) ∈ news) (h : Q (.ref I) s) : wpAny (model prog w) A (pyIter (.ref I)) Q E s :=
  wpAny_pyIter_rangeiter (N _ hm).1 h
theorem iter_rng {Q : Value → Shared → Prop} {L r : Addr} {n : Nat} {t u v : Tok} (F : Fr h₀ L s.heap m) (N : News h₀ L s.heap news) (hm : (r, rangeObj 0 n 1 t u v) ∈ news) (hn : n < 1000)
    (h : ∀ I s', rst s' = rst s → Fr h₀ L s'.heap m → News h₀ L s'.heap ((I, rngIt 0 n 1) :: news) → (∀ p ∈ news, p.1 < I) → Q (.ref I) s') : wpAny (model prog w) A (pyIter (.ref r)) Q E s := by
  refine wpAny_pyIter_range (N _ hm).1 (small01 hn) ?_
  rw [size01]
  exact h _ _ rfl (F.push _) (N.push F _) fun p hp => Heap.lt_size (N p hp).1
end

/-! lists of the ledger: methods -/
theorem news_put {h₀ h h' : Heap} {L d : Addr} {m : Str → Option Value} {news : List (Addr × Obj)} {o o' : Obj} (F : Fr h₀ L h m) (N : News h₀ L h news)
    (hm : (d, o) ∈ news) (hs : Heap.SameBut d h h') (ho : h'.get? d = some o') : Fr h₀ L h' m ∧ News h₀ L h' (setN news d o') := by
  have D := N (d, o) hm
  obtain ⟨oL, es, ep, hL, r⟩ := F.ns
  refine ⟨⟨⟨oL, es, ep, hs.extBut _ _ (Ne.symm D.2.1) hL, r⟩, fun b x q => hs.extBut _ _ (fun z => ?_) (F.keep b x q), F.above⟩, fun p hp => ?_⟩
  · have := D.2.2; rw [← z, q] at this; cases this
  · rcases mem_setN hp with ⟨rfl, _⟩ | ⟨hp, hn⟩
    · exact ⟨ho, D.2⟩
    · have P := N p hp; exact ⟨hs.extBut _ _ hn P.1, P.2⟩

theorem news_top {h₀ h : Heap} {L d : Addr} {news r : List (Addr × Obj)} {o o' : Obj} (N : News h₀ L h (setN news d o')) (hm : (d, o) ∈ news) (hs : ∀ p ∈ r, p ∈ news ∧ p.1 ≠ d) : News h₀ L h ((d, o') :: r) := by
  intro p hp
  rcases List.mem_cons.mp hp with rfl | hp
  · exact N _ (mem_setN_self hm)
  · exact N _ (mem_setN_ne (hs p hp).1 (hs p hp).2)
theorem setN_off {news : List (Addr × Obj)} {d : Addr} {o : Obj} (h : ∀ p ∈ news, p.1 ≠ d) : setN news d o = news := by
  unfold setN
  have : ∀ p ∈ news, (fun p : Addr × Obj => if p.1 = d then (d, o) else p) p = id p := fun p hp => by simp [h p hp]
  rw [List.map_congr_left this, List.map_id]
theorem setN_head {news : List (Addr × Obj)} {d : Addr} {o o' : Obj} (h : ∀ p ∈ news, p.1 ≠ d) : setN ((d, o) :: news) d o' = (d, o') :: news := by
  have : setN ((d, o) :: news) d o' = (d, o') :: setN news d o' := by unfold setN; simp
  rw [this, setN_off h]
theorem pairs_at {h₀ h : Heap} {L : Addr} {news cur : List (Addr × Obj)} {vs : List Value} {ps : List (Int × Int)} (N : News h₀ L h cur) (x : Pairs news vs ps) (hs : ∀ p ∈ news, p ∈ cur) : Pairs cur vs ps := x.mono hs
theorem pair_at {h₀ h : Heap} {L a : Addr} {news cur : List (Addr × Obj)} {p : Int × Int} (N : News h₀ L h cur) (x : PairAt news a p) (hs : ∀ p ∈ news, p ∈ cur) : PairAt cur a p := x.mono hs
theorem pair_head {h₀ h : Heap} {L a : Addr} {r : List (Addr × Obj)} {x y : Int} {t u : Tok} {n : Nat} (N : News h₀ L h ((a, { cls := .type "tuple", data := .seq (List.toArray [.int x t, .int y u]) n }) :: r)) : PairAt ((a, { cls := .type "tuple", data := .seq (List.toArray [.int x t, .int y u]) n }) :: r) a (x, y) := ⟨t, u, n, .head _⟩
theorem upd_list {h : Heap} {D : Addr} {its : Array Value} {n : Nat} (ho : h.get? D = some (listOf its n)) (f : Array Value → Array Value) : ∃ k, (h.update D (Obj.mapSeq f)).get? D = some (listOf (f its) k) :=
  ⟨_, Heap.get?_update_self _ ho rfl⟩

section
variable {prog : Program} {w : World} {A : Around} {E : Value → Shared → Prop} {s : Shared} {h₀ : Heap} {L D : Addr} {m : Str → Option Value} {news : List (Addr × Obj)} {vs us : List Value} {n k : Nat}

theorem extend_l {Q : Value → Shared → Prop} {b : Addr} (F : Fr h₀ L s.heap m) (N : News h₀ L s.heap news) (hm : (D, listOf vs.toArray n) ∈ news) (hb : (b, listOf us.toArray k) ∈ news) (hz : vs.length < 1000) (hz2 : us.length < 1000)
    (h : ∀ s' n', rst s' = rst s → Fr h₀ L s'.heap m → News h₀ L s'.heap (setN news D (listOf (vs ++ us).toArray n')) → Q .none s') :
    wpAny (model prog w) A (call (.builtin "list.extend") [.ref D, .ref b]) Q E s := by
  have z := N _ hm
  have hd : ¬(!vs.toArray.isEmpty && Builtin.List.listTooLong (vs.toArray.size + us.toArray.size)) = true := by
    have : Builtin.List.listTooLong (vs.toArray.size + us.toArray.size) = false := by
      unfold Builtin.List.listTooLong
      rw [List.size_toArray, List.size_toArray, sizeLine_eq]
      simp only [decide_eq_false_iff_not]
      omega
    rw [this]; simp
  refine call_meets PySem.F.slot_list_extend ⟨_, z.1, rfl⟩ PySem.F.entry_list_extend (PySem.F.args_list_extend_2 _ _) (PySem.AutoSeq1.list_extend_list_list_0 D vs.toArray n b us.toArray k hd (by rw [sizeLine_eq]; simp; omega) (by rw [sizeLine_eq]; simp; omega)) ⟨z.1, (N _ hb).1, ?_⟩
  obtain ⟨k', e⟩ := upd_list z.1 (fun x => x ++ us.toArray)
  obtain ⟨F', N'⟩ := news_put F N hm (Heap.SameBut.update ..) e
  have e2 : vs.toArray ++ us.toArray = (vs ++ us).toArray := by simp
  rw [e2] at N'
  exact h _ _ rfl F' N'

theorem append_l {Q : Value → Shared → Prop} {x : Value} (F : Fr h₀ L s.heap m) (N : News h₀ L s.heap news) (hm : (D, listOf vs.toArray n) ∈ news) (hz : vs.length < 1000)
    (h : ∀ s' n', rst s' = rst s → Fr h₀ L s'.heap m → News h₀ L s'.heap (setN news D (listOf (vs ++ [x]).toArray n')) → Q .none s') :
    wpAny (model prog w) A (call (.builtin "list.append") [.ref D, x]) Q E s := by
  refine append_at (hsz := by rw [sizeLine_eq]; simp; omega) (N _ hm).1 fun h' hs ho' => ?_
  obtain ⟨F', N'⟩ := news_put F N hm hs ho'
  have e2 : vs.toArray.push x = (vs ++ [x]).toArray := by simp
  rw [e2] at N'
  exact h _ _ rfl F' N'

theorem reverse_l {Q : Value → Shared → Prop} (F : Fr h₀ L s.heap m) (N : News h₀ L s.heap news) (hm : (D, listOf vs.toArray n) ∈ news) (hz : vs.length < 1000)
    (h : ∀ s' n', rst s' = rst s → Fr h₀ L s'.heap m → News h₀ L s'.heap (setN news D (listOf vs.reverse.toArray n')) → Q .none s') :
    wpAny (model prog w) A (call (.builtin "list.reverse") [.ref D]) Q E s := by
  have z := N _ hm
  refine call_meets PySem.F.slot_list_reverse ⟨_, z.1, rfl⟩ PySem.F.entry_list_reverse (PySem.F.args_list_reverse_1 _) (PySem.AutoSeq1.list_reverse_list_0 D vs.toArray n (by rw [sizeLine_eq]; simp; omega)) ⟨z.1, ?_⟩
  obtain ⟨k', e⟩ := upd_list z.1 (fun x => x.reverse)
  obtain ⟨F', N'⟩ := news_put F N hm (Heap.SameBut.update ..) e
  have e2 : vs.toArray.reverse = vs.reverse.toArray := by simp
  rw [e2] at N'
  exact h _ _ rfl F' N'

theorem copy_l {Q : Value → Shared → Prop} (F : Fr h₀ L s.heap m) (N : News h₀ L s.heap news) (hm : (D, listOf vs.toArray n) ∈ news) (hz : vs.length < 1000)
    (h : ∀ b s' n', rst s' = rst s → Fr h₀ L s'.heap m → News h₀ L s'.heap ((b, listOf vs.toArray n') :: news) → (∀ p ∈ news, p.1 < b) → Q (.ref b) s') :
    wpAny (model prog w) A (call (.type "list") [.ref D]) Q E s :=
  list_copyK F N ⟨_, (N _ hm).1, rfl, n, rfl⟩ (fun b c h' F' N' l => h b _ c rfl F' N' l) (by rw [sizeLine_eq]; simp; omega)

theorem new_l {Q : Value → Shared → Prop} (F : Fr h₀ L s.heap m) (N : News h₀ L s.heap news) (hz : vs.length < 1000)
    (h : ∀ b s', rst s' = rst s → Fr h₀ L s'.heap m → News h₀ L s'.heap ((b, listOf vs.toArray 0) :: news) → (∀ p ∈ news, p.1 < b) → Q (.ref b) s') :
    wpAny (model prog w) A (newList vs) Q E s :=
  newList_K F N (fun b h' F' N' l => h b _ rfl F' N' l) (by rw [sizeLine_eq]; omega)
abbrev tupObj (vs : List Value) (n : Nat) : Obj := { cls := .type "tuple", data := .seq vs.toArray n }
theorem new_t {Q : Value → Shared → Prop} (F : Fr h₀ L s.heap m) (N : News h₀ L s.heap news) (hz : vs.length < 1000)
    (h : ∀ b s', rst s' = rst s → Fr h₀ L s'.heap m → News h₀ L s'.heap ((b, tupObj vs 0) :: news) → (∀ p ∈ news, p.1 < b) → Q (.ref b) s') :
    wpAny (model prog w) A (newTuple vs) Q E s :=
  newTuple_N F N (fun h' F' N' => h _ _ rfl F' N' fun p hp => Heap.lt_size (N p hp).1) (by rw [sizeLine_eq]; omega)

theorem get_nat_t {ns : List Nat} {k : Int} {u : Tok} {value slice : Expr} {Q : Value → Shared → Prop} (N : News h₀ L s.heap news) (hm : (D, listOf vs.toArray n) ∈ news) (hP : Nats vs ns) (h0 : 0 ≤ k) (h1 : k < ns.length) (hfit : ns.length < 1000)
    (h : ∀ t, Q (.int ((ns.getD k.toNat 0 : Nat) : Int) t) s)
    (hs : subscripted slice false (.ref D) (.int k u) = operate [.ref D, .int k u] (getItem (.ref D) (.int k u)) := by with_unfolding_all rfl) :
    wpAny (model prog w) A (subscriptTail value slice (.ref D) (.int k u)) Q E s := by
  obtain ⟨t, e⟩ := hP.get (i := k.toNat) (by omega)
  have hl : s.heap.IsList D vs.toArray := ⟨_, (N _ hm).1, rfl, n, rfl⟩
  exact tail_any hl.typeIs slot_list_getitem.lookup (wpAny_getItem_list hl h0 (by omega) (by simpa using e) (h t)) hs
theorem meth_l {name : Str} {id : String} {pl : Sem Bool} {its : Array Value} {Q : Value × List Value → Shared → Prop} (N : News h₀ L s.heap news) (hm : (D, listOf its n) ∈ news) (slot : Slot "list" name id) (hty : typeOf (.builtin id) = pure (.type "method_descriptor"))
    (h : Q (.builtin id, [.ref D]) s) : wpAny (model prog w) A (getMethod (.ref D) name pl) Q E s := kl_method N hm slot hty h

theorem store_c {Q : Unit → Shared → Prop} {a c : Addr} {cn x : Str} {cs : Scope} {ccd v : Value} {cl : List (Str × Addr)} {o : Obj} {v₀ : Option Value} (F : Fr h₀ L s.heap m) (N : News h₀ L s.heap news) (hc : cl.lookup x = some c) (hm : (c, o) ∈ news) (hd : o.data = .cell v₀)
    (h : ∀ s' o', rst s' = rst s → Fr h₀ L s'.heap m → News h₀ L s'.heap (setN news c o') → o'.data = .cell (some v) → Q () s')
    (hk : cs.kind = .function := by rfl) (hx : (envX cn cs L a ccd cl).kindOf x = some .cell := by rfl) : wpAny (model prog w) A (storeName (envX cn cs L a ccd cl) x v) Q E s := by
  refine wpAny_storeName_cell hk hx hc ⟨o, (N _ hm).1, hd⟩ fun h' hv hs => ?_
  obtain ⟨o', ho', hd'⟩ := hv
  obtain ⟨F', N'⟩ := news_put F N hm hs ho'
  exact h _ o' rfl F' N' hd'

theorem key_of {h : Heap} {a : Addr} {p : Int × Int} {t1 t2 : Tok} (x : IsTup h a #[.int p.1 t1, .int p.2 t2]) : IsTupleKey (intKind prog w) h [p.1, p.2] a := by
  obtain ⟨o, ho, hc, n, hd⟩ := x
  exact ⟨o, _, n, ho, hc, hd, .cons (intKind_is _ _ _ _) (.cons (intKind_is _ _ _ _) .nil)⟩
theorem eqb_pair {a b : Addr} {p q : Int × Int} {Q : Bool → Shared → Prop} (N : News h₀ L s.heap news) (ha : PairAt news a p) (hb : PairAt news b q) (hu : A.units < cLine) (h : Q (decide (p = q)) s) :
    wpAny (model prog w) A (eqBool (.ref a) (.ref b)) Q E s := by
  obtain ⟨t1, t2, xa⟩ := ha.tup N
  obtain ⟨u1, u2, xb⟩ := hb.tup N
  refine wpAny_eqBool_tuple (knd := intKind prog w) hu (key_of xa) (key_of xb) ?_
  have e : decide ([p.1, p.2] = [q.1, q.2]) = decide (p = q) := by
    rw [decide_eq_decide]
    constructor
    · intro h; simp at h; exact Prod.ext h.1 h.2
    · intro h; rw [h]
  rw [e]; exact h

theorem PairAt.inj {h : Heap} {a : Addr} {p q : Int × Int} (N : News h₀ L h news) (x : PairAt news a p) (y : PairAt news a q) : p = q := by
  obtain ⟨t1, t2, k, hm⟩ := x
  obtain ⟨u1, u2, k', hm'⟩ := y
  have h1 := (N _ hm).1
  have h2 := (N _ hm').1
  dsimp only at h1 h2
  rw [h1] at h2
  injection h2 with h2
  injection h2 with _ _ h2
  injection h2 with h2
  have h3 : [Value.int p.1 t1, Value.int p.2 t2] = [Value.int q.1 u1, Value.int q.2 u2] := by
    have := congrArg Array.toList h2
    simpa using this
  simp at h3
  exact Prod.ext h3.1.1 h3.2.1

theorem ne_at {a b : Addr} {p q : Int × Int} {Q : Value → Shared → Prop} (N : News h₀ L s.heap news) (ha : PairAt news a p) (hb : PairAt news b q) (hu : A.units + 64 < cLine) (h : Q (.bool (!decide (p = q))) s) :
    wpAny (model prog w) A (compareOp .NotEq (.ref a) (.ref b)) Q E s := by
  obtain ⟨t1, t2, k, hm⟩ := ha
  obtain ⟨u1, u2, k', hm'⟩ := hb
  refine ne_dataH (da := .tuple [.int p.1, .int p.2]) (db := .tuple [.int q.1, .int q.2]) (reads_tuple_at (N _ hm).1 rfl rfl (.cons (.int _ _) (.cons (.int _ _) .nil))) (reads_tuple_at (N _ hm').1 rfl rfl (.cons (.int _ _) (.cons (.int _ _) .nil))) (by simp [SeqAt.shaped, PyData.canLay0, PyData.canLayAll0, PyData.depth, PyData.depthAll]) (by simp [SeqAt.shaped, PyData.canLay0, PyData.canLayAll0, PyData.depth, PyData.depthAll]) hu ?_
  have e : PyData.eqv (.tuple [.int p.1, .int p.2]) (.tuple [.int q.1, .int q.2]) = decide (p = q) := by
    simp only [PyData.eqv, PyData.eqvAll, Bool.and_true]
    by_cases h1 : p.1 = q.1 <;> by_cases h2 : p.2 = q.2
    · have : p = q := Prod.ext h1 h2
      simp [this]
    · have : p ≠ q := fun e => h2 (by rw [e])
      simp [this, h2]
    · have : p ≠ q := fun e => h1 (by rw [e])
      simp [this, h1]
    · have : p ≠ q := fun e => h1 (by rw [e])
      simp [this, h1]
  rw [e]; exact h

open Classical in
theorem index_l {hh : Heap} {gg : Array GenState} {dd : Drawn} {kk : Nat} {oo : OsState} {xa : Addr} {ps : List (Int × Int)} {q : Int × Int} {Q : Value → Shared → Prop} (N : News h₀ L hh news) (hm : (D, listOf vs.toArray n) ∈ news) (hP : Pairs news vs ps) (hx : PairAt news xa q) (hq : q ∈ ps) (hfit : ps.length < 1000) (hu : A.units + 1 < cLine)
    (h : ∀ t tk, Q (.int ((ps.findIdx (fun y => decide (y = q)) : Nat) : Int) t) ⟨hh, gg, dd, tk, oo⟩) : wpAny (model prog w) A (call (.builtin "list.index") [.ref D, .ref xa]) Q E ⟨hh, gg, dd, kk, oo⟩ := by
  have hj : ps.findIdx (fun y => decide (y = q)) < ps.length := List.findIdx_lt_length_of_exists ⟨q, hq, by simp⟩
  have hl := hP.1
  have val : ∀ (i : Nat) (hi : i < vs.length), PairIn news vs[i] (ps[i]'(by omega)) := fun i hi => hP.2 i _ _ (by simp) (by simp)
  have key : ∀ (i : Nat) (hi : i < vs.length), decide (PairIn news vs[i] q) = decide (ps[i]'(by omega) = q) := by
    intro i hi
    rw [decide_eq_decide]
    obtain ⟨a, e, ha⟩ := val i hi
    constructor
    · rintro ⟨a', e', ha'⟩
      rw [e] at e'
      injection e' with e'
      subst e'
      exact PairAt.inj N ha ha'
    · intro e'
      rw [← e']
      exact val i hi
  refine call_meets PySem.F.slot_list_index ⟨_, (N _ hm).1, rfl⟩ PySem.F.entry_list_index (PySem.F.args_list_index_2 _ _)
    (SeqAt.list_indexAt D vs.toArray n none #[] (.ref xa) (fun v => decide (PairIn news v q)) (ps.findIdx (fun y => decide (y = q))) (by simp; omega) (by omega) ?_ ?_) ⟨(N _ hm).1, ?_, ?_⟩
  · have h1 := key (ps.findIdx (fun y => decide (y = q))) (by omega)
    have h2 : (ps[ps.findIdx (fun y => decide (y = q))]'hj) = q := by
      have := List.findIdx_getElem (xs := ps) (p := fun y => decide (y = q)) (w := hj)
      simpa using this
    show decide (PairIn news (vs.toArray[ps.findIdx (fun y => decide (y = q))]'(by simp; omega)) q) = true
    simp only [List.getElem_toArray]
    rw [h1, h2]
    simp
  · intro m' hm' hlt
    have hm2 : m' < vs.length := by simpa using hm'
    have h1 := key m' hm2
    have h2 := List.not_of_lt_findIdx (xs := ps) (p := fun y => decide (y = q)) hlt
    show decide (PairIn news (vs.toArray[m']'hm') q) = false
    simp only [List.getElem_toArray]
    rw [h1]
    simpa using h2
  · intro y hy prog' w' E' Q' hq'
    have hy' : y ∈ vs := by simpa using hy
    obtain ⟨i, hi, rfl⟩ := List.getElem_of_mem hy'
    obtain ⟨a, e, ha⟩ := val i hi
    have hk := key i hi
    show wpAny (model prog' w') A.in1 (eqBool vs[i] (.ref xa)) Q' E' _
    have hk' : decide (PairIn news vs[i] q) = decide (ps[i]'(by omega) = q) := hk
    rw [hk'] at hq'
    rw [e]
    refine eqb_pair N ha hx (by show A.units + 1 < cLine; exact hu) ?_
    exact hq'
  · exact h _ _
end

/-! comprehensions by an invariant -/
open PyProof.Rows.LCg PyProof.Rows.LCt

def CEnd (h₀ : Heap) (L : Addr) (m : Str → Option Value) (s : Shared) (I : Addr) (oI : Obj) (C : Addr) (oC : Obj) (D : Addr) (ys : List Value) (S : List (Addr × Obj) → Prop) (Jn : List (Addr × Obj) → Prop) (s₂ : Shared) : Prop :=
  ∃ news', rst s₂ = rst s ∧ Fr h₀ L s₂.heap m ∧ News h₀ L s₂.heap ((I, oI) :: (C, oC) :: (D, lst ys) :: news') ∧ Off3 I C D news' ∧ S news' ∧ Jn news'
/-- behind the element -/
def CEl (h₀ : Heap) (L : Addr) (m : Str → Option Value) (s : Shared) (I : Addr) (oI : Obj) (C : Addr) (oC : Obj) (D : Addr) (ys : List Value) (S : List (Addr × Obj) → Prop) (J : List Value → List (Addr × Obj) → Prop) (y : Value) (s₂ : Shared) : Prop :=
  CEnd h₀ L m s I oI C oC D ys S (J (ys ++ [y])) s₂

section
variable {prog : Program} {w : World} {A : Around} {E : Value → Shared → Prop} {s : Shared} {h₀ : Heap} {L : Addr} {m : Str → Option Value} {env : Env}
  {ct elt : Expr} {x : Str} {scope : Scope} {cl : List (Str × Addr)} {S : List (Addr × Obj) → Prop} {P : Nat → Value → Prop} {Fin : List Value → List (Addr × Obj) → Prop} {n : Nat} {news : List (Addr × Obj)}

theorem compT_inv (J : Nat → List Value → List (Addr × Obj) → Prop)
    (turn : ∀ i v I oI C oC D m₂ s₁ ys nw (E' : Value → Shared → Prop), i < n → J i ys nw → P i v → NsObj oC m₂ → m₂ x = some v → rst s₁ = rst s → Fr h₀ L s₁.heap m → News h₀ L s₁.heap ((I, oI) :: (C, oC) :: (D, lst ys) :: nw) → Off3 I C D nw → ((@Ne Nat I C) ∧ (@Ne Nat I D) ∧ (@Ne Nat C D)) →
      wpAny (model prog w) A (isTrue ct (compEnvC scope cl C env) (eval ct (compEnvC scope cl C env))) (fun ok s' => if ok = true then
        wpAny (model prog w) A (eval elt (compEnvC scope cl C env)) (CEl h₀ L m s I oI C oC D ys S (J (i + 1))) E' s' else CEnd h₀ L m s I oI C oC D ys S (J (i + 1) ys) s') E' s₁)
    (fin : ∀ ys nw, J n ys nw → Fin ys nw) (h0 : J 0 [] news) : CompRestT prog w A h₀ L m env ct elt x scope cl s S P Fin n 0 [] news := by
  have key : ∀ k i ys nw, i + k = n → J i ys nw → CompRestT prog w A h₀ L m env ct elt x scope cl s S P Fin k i ys nw := by
    intro k
    induction k with
    | zero =>
      intro i ys nw e hJ
      rw [Nat.add_zero] at e
      subst e
      exact .zero (fin ys nw hJ)
    | succ k ih =>
      intro i ys nw e hJ
      refine .succ ?_
      intro v I oI C oC D m₂ h tk E' hP hC hx F N off ne
      refine wpAny_mono (turn i v I oI C oC D m₂ _ ys nw E' (by omega) hJ hP hC hx rfl F N off ne) (fun ok s' h' => ?_) (fun _ _ y => y)
      cases ok with
      | false =>
        simp only [Bool.false_eq_true, if_false] at h' ⊢
        obtain ⟨news', e', F', N', off', hS', hJ'⟩ := h'
        exact ⟨s'.heap, s'.toks, news', rst_eq (s := { s with heap := h, toks := tk }) e', F', N', off', hS', ih (i + 1) ys news' (by omega) hJ'⟩
      | true =>
        simp only [if_true] at h' ⊢
        refine wpAny_mono h' (fun y s₂ h₂ => ?_) (fun _ _ y => y)
        obtain ⟨news', e', F', N', off', hS', hJ'⟩ := h₂
        exact ⟨s₂.heap, s₂.toks, news', rst_eq (s := { s with heap := h, toks := tk }) e', F', N', off', hS', ih (i + 1) (ys ++ [y]) news' (by omega) hJ'⟩
  exact key n 0 [] news (by omega) h0

theorem compU_inv (J : Nat → List Value → List (Addr × Obj) → Prop)
    (turn : ∀ i v I oI C oC D m₂ s₁ ys nw (E' : Value → Shared → Prop), i < n → J i ys nw → P i v → NsObj oC m₂ → m₂ x = some v → rst s₁ = rst s → Fr h₀ L s₁.heap m → News h₀ L s₁.heap ((I, oI) :: (C, oC) :: (D, lst ys) :: nw) → Off3 I C D nw → ((@Ne Nat I C) ∧ (@Ne Nat I D) ∧ (@Ne Nat C D)) →
      wpAny (model prog w) A (eval elt (compEnvC scope cl C env)) (CEl h₀ L m s I oI C oC D ys S (J (i + 1))) E' s₁)
    (fin : ∀ ys nw, J n ys nw → Fin ys nw) (h0 : J 0 [] news) : CompRest prog w A h₀ L m env elt x scope cl s S P Fin n 0 [] news := by
  have key : ∀ k i ys nw, i + k = n → J i ys nw → CompRest prog w A h₀ L m env elt x scope cl s S P Fin k i ys nw := by
    intro k
    induction k with
    | zero =>
      intro i ys nw e hJ
      rw [Nat.add_zero] at e
      subst e
      exact .zero (fin ys nw hJ)
    | succ k ih =>
      intro i ys nw e hJ
      refine .succ ?_
      intro v I oI C oC D m₂ h tk E' hP hC hx F N off ne
      refine wpAny_mono (turn i v I oI C oC D m₂ _ ys nw E' (by omega) hJ hP hC hx rfl F N off ne) (fun y s₂ h₂ => ?_) (fun _ _ y => y)
      obtain ⟨news', e', F', N', off', hS', hJ'⟩ := h₂
      exact ⟨s₂.heap, s₂.toks, news', rst_eq (s := { s with heap := h, toks := tk }) e', F', N', off', hS', ih (i + 1) (ys ++ [y]) news' (by omega) hJ'⟩
  exact key n 0 [] news (by omega) h0

theorem off1_of {D : Addr} {l : List (Addr × Obj)} (h : Off1 D l) : ∀ p ∈ l, p.1 ≠ D := by
  induction l with
  | nil => intro p hp; cases hp
  | cons q r ih =>
    intro p hp
    rcases List.mem_cons.mp hp with rfl | hp
    · exact h.1
    · exact ih h.2 p hp

theorem srcT_l {ax : Addr} {its : List Value} {k : Nat} {Q : Value → Shared → Prop} (J : Nat → List Value → List (Addr × Obj) → Prop) (hh : A.handled = none) (F : Fr h₀ L s.heap m) (N : News h₀ L s.heap news) (hm : (ax, listOf its.toArray k) ∈ news) (hsz : its.length < 1000) (h0 : J 0 [] news)
    (turn : ∀ i v I oI C oC D m₂ s₁ ys nw (E' : Value → Shared → Prop), i < its.length → J i ys nw → its[i]? = some v → NsObj oC m₂ → m₂ x = some v → rst s₁ = rst s → Fr h₀ L s₁.heap m → News h₀ L s₁.heap ((I, oI) :: (C, oC) :: (D, lst ys) :: nw) → Off3 I C D nw → ((@Ne Nat I C) ∧ (@Ne Nat I D) ∧ (@Ne Nat C D)) →
      wpAny (model prog w) A (isTrue ct (compEnvC scope cl C env) (eval ct (compEnvC scope cl C env))) (fun ok s' => if ok = true then
        wpAny (model prog w) A (eval elt (compEnvC scope cl C env)) (CEl h₀ L m s I oI C oC D ys (SrcAt h₀ ax its.toArray) (J (i + 1))) E' s' else CEnd h₀ L m s I oI C oC D ys (SrcAt h₀ ax its.toArray) (J (i + 1) ys) s') E' s₁)
    (fin : ∀ D ys nw s', rst s' = rst s → Fr h₀ L s'.heap m → News h₀ L s'.heap ((D, lst ys) :: nw) → (∀ p ∈ nw, p.1 ≠ D) → J its.length ys nw → Q (.ref D) s') :
    CompSrcT prog w A h₀ L m env ct elt x scope cl (fun s₂ => FinE h₀ L m s₂ Q) (.ref ax) s := by
  refine CompSrcT.ledger hh F N hm (by rw [sizeLine_eq, List.size_toArray]; omega) fun g => ?_
  have e : its.toArray.size = its.length := by simp
  rw [e]
  refine compT_inv J (fun i v I oI C oC D m₂ s₁ ys nw E' hi hJ hP => turn i v I oI C oC D m₂ s₁ ys nw E' hi hJ (by simpa using hP)) ?_ h0
  intro ys nw hJ D h tk F' N' o1
  exact fin D ys nw _ rfl F' N' (off1_of o1) hJ

theorem srcT_r {r : Addr} {a : Int} {b : Nat} {t u v : Tok} {Q : Value → Shared → Prop} (J : Nat → List Value → List (Addr × Obj) → Prop) (hh : A.handled = none) (F : Fr h₀ L s.heap m) (N : News h₀ L s.heap news) (hm : (r, rangeObj a b 1 t u v) ∈ news) (hsm : Builtin.Range.small a b 1 = true) (hn : Builtin.Range.rangeSize a b 1 = ((n : Nat) : Int)) (hsz : n < 1000) (h0 : J 0 [] news)
    (turn : ∀ i t I oI C oC D m₂ s₁ ys nw (E' : Value → Shared → Prop), i < n → J i ys nw → NsObj oC m₂ → m₂ x = some (.int (a + (i : Int)) t) → rst s₁ = rst s → Fr h₀ L s₁.heap m → News h₀ L s₁.heap ((I, oI) :: (C, oC) :: (D, lst ys) :: nw) → Off3 I C D nw → ((@Ne Nat I C) ∧ (@Ne Nat I D) ∧ (@Ne Nat C D)) →
      wpAny (model prog w) A (isTrue ct (compEnvC scope cl C env) (eval ct (compEnvC scope cl C env))) (fun ok s' => if ok = true then
        wpAny (model prog w) A (eval elt (compEnvC scope cl C env)) (CEl h₀ L m s I oI C oC D ys (fun _ => True) (J (i + 1))) E' s' else CEnd h₀ L m s I oI C oC D ys (fun _ => True) (J (i + 1) ys) s') E' s₁)
    (fin : ∀ D ys nw s', rst s' = rst s → Fr h₀ L s'.heap m → News h₀ L s'.heap ((D, lst ys) :: nw) → (∀ p ∈ nw, p.1 ≠ D) → J n ys nw → Q (.ref D) s') :
    CompSrcT prog w A h₀ L m env ct elt x scope cl (fun s₂ => FinE h₀ L m s₂ Q) (.ref r) s := by
  refine CompSrcT.range hh F N (N _ hm).1 hsm hn (by rw [sizeLine_eq]; omega) fun g => ?_
  refine compT_inv J (fun i v I oI C oC D m₂ s₁ ys nw E' hi hJ hP hC hx => ?_) ?_ h0
  · obtain ⟨t, rfl⟩ := hP
    exact turn i t I oI C oC D m₂ s₁ ys nw E' hi hJ hC hx
  intro ys nw hJ D h tk F' N' o1
  exact fin D ys nw _ rfl F' N' (off1_of o1) hJ

theorem srcU_l {ax : Addr} {its : List Value} {k : Nat} {Q : Value → Shared → Prop} (J : Nat → List Value → List (Addr × Obj) → Prop) (hh : A.handled = none) (F : Fr h₀ L s.heap m) (N : News h₀ L s.heap news) (hm : (ax, listOf its.toArray k) ∈ news) (hsz : its.length < 1000) (h0 : J 0 [] news)
    (turn : ∀ i v I oI C oC D m₂ s₁ ys nw (E' : Value → Shared → Prop), i < its.length → J i ys nw → its[i]? = some v → NsObj oC m₂ → m₂ x = some v → rst s₁ = rst s → Fr h₀ L s₁.heap m → News h₀ L s₁.heap ((I, oI) :: (C, oC) :: (D, lst ys) :: nw) → Off3 I C D nw → ((@Ne Nat I C) ∧ (@Ne Nat I D) ∧ (@Ne Nat C D)) →
      wpAny (model prog w) A (eval elt (compEnvC scope cl C env)) (CEl h₀ L m s I oI C oC D ys (SrcAt h₀ ax its.toArray) (J (i + 1))) E' s₁)
    (fin : ∀ D ys nw s', rst s' = rst s → Fr h₀ L s'.heap m → News h₀ L s'.heap ((D, lst ys) :: nw) → (∀ p ∈ nw, p.1 ≠ D) → J its.length ys nw → Q (.ref D) s') :
    CompSrc prog w A h₀ L m env elt x scope cl (fun s₂ => FinE h₀ L m s₂ Q) (.ref ax) s := by
  refine CompSrc.ledger hh F N hm (by rw [sizeLine_eq, List.size_toArray]; omega) fun g => ?_
  have e : its.toArray.size = its.length := by simp
  rw [e]
  refine compU_inv J (fun i v I oI C oC D m₂ s₁ ys nw E' hi hJ hP => turn i v I oI C oC D m₂ s₁ ys nw E' hi hJ (by simpa using hP)) ?_ h0
  intro ys nw hJ D h tk F' N' o1
  exact fin D ys nw _ rfl F' N' (off1_of o1) hJ

theorem srcU_r {r : Addr} {a : Int} {b : Nat} {t u v : Tok} {Q : Value → Shared → Prop} (J : Nat → List Value → List (Addr × Obj) → Prop) (hh : A.handled = none) (F : Fr h₀ L s.heap m) (N : News h₀ L s.heap news) (hm : (r, rangeObj a b 1 t u v) ∈ news) (hsm : Builtin.Range.small a b 1 = true) (hn : Builtin.Range.rangeSize a b 1 = ((n : Nat) : Int)) (hsz : n < 1000) (h0 : J 0 [] news)
    (turn : ∀ i t I oI C oC D m₂ s₁ ys nw (E' : Value → Shared → Prop), i < n → J i ys nw → NsObj oC m₂ → m₂ x = some (.int (a + (i : Int)) t) → rst s₁ = rst s → Fr h₀ L s₁.heap m → News h₀ L s₁.heap ((I, oI) :: (C, oC) :: (D, lst ys) :: nw) → Off3 I C D nw → ((@Ne Nat I C) ∧ (@Ne Nat I D) ∧ (@Ne Nat C D)) →
      wpAny (model prog w) A (eval elt (compEnvC scope cl C env)) (CEl h₀ L m s I oI C oC D ys (fun _ => True) (J (i + 1))) E' s₁)
    (fin : ∀ D ys nw s', rst s' = rst s → Fr h₀ L s'.heap m → News h₀ L s'.heap ((D, lst ys) :: nw) → (∀ p ∈ nw, p.1 ≠ D) → J n ys nw → Q (.ref D) s') :
    CompSrc prog w A h₀ L m env elt x scope cl (fun s₂ => FinE h₀ L m s₂ Q) (.ref r) s := by
  refine CompSrc.range hh F N (N _ hm).1 hsm hn (by rw [sizeLine_eq]; omega) fun g => ?_
  refine compU_inv J (fun i v I oI C oC D m₂ s₁ ys nw E' hi hJ hP hC hx => ?_) ?_ h0
  · obtain ⟨t, rfl⟩ := hP
    exact turn i t I oI C oC D m₂ s₁ ys nw E' hi hJ hC hx
  intro ys nw hJ D h tk F' N' o1
  exact fin D ys nw _ rfl F' N' (off1_of o1) hJ

theorem srcUA_l {ax : Addr} {its : List Value} {k : Nat} {y : Str} {Q : Flow → Shared → Prop} (J : Nat → List Value → List (Addr × Obj) → Prop) (hh : A.handled = none) (F : Fr h₀ L s.heap m) (N : News h₀ L s.heap news) (hm : (ax, listOf its.toArray k) ∈ news) (hsz : its.length < 1000) (h0 : J 0 [] news)
    (turn : ∀ i v I oI C oC D m₂ s₁ ys nw (E' : Value → Shared → Prop), i < its.length → J i ys nw → its[i]? = some v → NsObj oC m₂ → m₂ x = some v → rst s₁ = rst s → Fr h₀ L s₁.heap m → News h₀ L s₁.heap ((I, oI) :: (C, oC) :: (D, lst ys) :: nw) → Off3 I C D nw → ((@Ne Nat I C) ∧ (@Ne Nat I D) ∧ (@Ne Nat C D)) →
      wpAny (model prog w) A (eval elt (compEnvC scope cl C env)) (CEl h₀ L m s I oI C oC D ys (SrcAt h₀ ax its.toArray) (J (i + 1))) E' s₁)
    (fin : ∀ D ys nw s', rst s' = rst s → Fr h₀ L s'.heap (fun z => if z = y then some (.ref D) else m z) → News h₀ L s'.heap ((D, lst ys) :: nw) → (∀ p ∈ nw, p.1 ≠ D) → J its.length ys nw → Q .next s') :
    CompSrc prog w A h₀ L m env elt x scope cl (fun s₂ => FinA h₀ L m s₂ y Q) (.ref ax) s := by
  refine CompSrc.ledger hh F N hm (by rw [sizeLine_eq, List.size_toArray]; omega) fun g => ?_
  have e : its.toArray.size = its.length := by simp
  rw [e]
  refine compU_inv J (fun i v I oI C oC D m₂ s₁ ys nw E' hi hJ hP => turn i v I oI C oC D m₂ s₁ ys nw E' hi hJ (by simpa using hP)) ?_ h0
  intro ys nw hJ D h tk F' N' o1
  exact fin D ys nw _ rfl F' N' (off1_of o1) hJ
end

/-! iter, is -/
section
variable {prog : Program} {w : World} {A : Around} {E : Value → Shared → Prop} {s : Shared} {h₀ : Heap} {L : Addr} {m : Str → Option Value} {news : List (Addr × Obj)}
theorem iter_call {Q : Value → Shared → Prop} {r : Addr} {n : Nat} {t u v : Tok} (F : Fr h₀ L s.heap m) (N : News h₀ L s.heap news) (hm : (r, rangeObj 0 n 1 t u v) ∈ news) (hn : n < 1000)
    (h : ∀ I s', rst s' = rst s → Fr h₀ L s'.heap m → News h₀ L s'.heap ((I, rngIt 0 n 1) :: news) → (∀ p ∈ news, p.1 < I) → Q (.ref I) s') :
    wpAny (model prog w) A (call (.builtin "iter") [.ref r]) Q E s := by
  refine PySem.Calls.call_function_entry (by decide +kernel) (by decide +kernel) kdk_entry_iter (kdk_args_iter _) ?_
  unfold Builtin.«iter»
  refine wpAny_bind (m := someArgs "iter" 1 2 _) (wpAny_of_eq (a := [Value.ref r]) (by first | rfl | kernel_rfl!) ?_)
  show wpAny _ _ (pyIter (.ref r) >>= _) _ _ _
  refine wpAny_bind (iter_rng F N hm hn fun I s' e F' N' l => ?_)
  exact wpAny_pure ⟨_, rfl, h I s' e F' N' l⟩
theorem is_l {Q : Value → Shared → Prop} {M : Model} {D b : Addr} {its : Array Value} {n : Nat} {ob : Obj} {K : Frag} (N : News h₀ L s.heap news) (F : Fr h₀ L s.heap m) (hm : (D, listOf its n) ∈ news) (X : K.In h₀) (hk : K.lookup b = some ob) (h : Q (.bool false) s) :
    wpAny M A (compareOp .Is (.ref D) (.ref b)) Q E s :=
  kto_is (N _ hm).1 (X.keeps F.keep _ _ hk) (kto_neNK N hm X hk) (fun z => absurd (Value.type.inj z) (by decide)) h
end

/-! rows as data: == and != -/
def pd (p : Int × Int) : PyData := .tuple [.int p.1, .int p.2]
def rowD (ps : List (Int × Int)) : PyData := .list (ps.map pd)
def natD (ns : List Nat) : PyData := .list (ns.map fun (n : Nat) => PyData.int (n : Int))

theorem Pairs.cons_inv {news : List (Addr × Obj)} {v : Value} {vs : List Value} {p : Int × Int} {ps : List (Int × Int)} (x : Pairs news (v :: vs) (p :: ps)) : PairIn news v p ∧ Pairs news vs ps :=
  ⟨x.2 0 v p (by simp) (by simp), by have := x.1; simpa using this, fun i u q a b => x.2 (i + 1) u q (by simpa using a) (by simpa using b)⟩
theorem Pairs.cons {news : List (Addr × Obj)} {v : Value} {vs : List Value} {p : Int × Int} {ps : List (Int × Int)} (hv : PairIn news v p) (x : Pairs news vs ps) : Pairs news (v :: vs) (p :: ps) := by
  refine ⟨by simp [x.1], fun i u q a b => ?_⟩
  cases i with
  | zero => simp at a b; subst a; subst b; exact hv
  | succ i => exact x.2 i u q (by simpa using a) (by simpa using b)
theorem Pairs.take {news : List (Addr × Obj)} {vs : List Value} {ps : List (Int × Int)} (x : Pairs news vs ps) (k : Nat) : Pairs news (vs.take k) (ps.take k) := by
  refine ⟨by simp [x.1], fun i u q a b => ?_⟩
  rw [List.getElem?_take] at a b
  split at a
  · rename_i h; rw [if_pos h] at b; exact x.2 i u q a b
  · cases a
theorem pairs_reads {h₀ h : Heap} {L : Addr} {news : List (Addr × Obj)} (N : News h₀ L h news) : ∀ {vs : List Value} {ps : List (Int × Int)}, Pairs news vs ps → ∃ as, ReadsAll h vs (ps.map pd) as
  | [], [], _ => ⟨_, .nil⟩
  | [], _ :: _, x => by have := x.1; simp at this
  | _ :: _, [], x => by have := x.1; simp at this
  | v :: vs, p :: ps, x => by
    obtain ⟨⟨a, rfl, t1, t2, n, hm⟩, y⟩ := x.cons_inv
    obtain ⟨as, r⟩ := pairs_reads N y
    exact ⟨_, .cons (reads_tuple_at (N _ hm).1 rfl rfl (.cons (.int _ _) (.cons (.int _ _) .nil))) r⟩
theorem row_reads {h₀ h : Heap} {L D : Addr} {news : List (Addr × Obj)} {vs : List Value} {ps : List (Int × Int)} {n : Nat} (N : News h₀ L h news) (hm : (D, listOf vs.toArray n) ∈ news) (x : Pairs news vs ps) : ∃ as, Reads h (.ref D) (rowD ps) as := by
  obtain ⟨as, r⟩ := pairs_reads N x
  exact ⟨_, reads_list_at (N _ hm).1 rfl rfl (by simpa using r)⟩
theorem nats_reads {h : Heap} : ∀ {vs : List Value} {ns : List Nat}, Nats vs ns → ∃ as, ReadsAll h vs (ns.map fun (n : Nat) => PyData.int (n : Int)) as
  | [], [], _ => ⟨_, .nil⟩
  | [], _ :: _, x => by have := x.1; simp at this
  | _ :: _, [], x => by have := x.1; simp at this
  | v :: vs, n :: ns, x => by
    obtain ⟨t, rfl⟩ := x.2 0 v n (by simp) (by simp)
    have y : Nats vs ns := ⟨by have := x.1; simpa using this, fun i u q a b => x.2 (i + 1) u q (by simpa using a) (by simpa using b)⟩
    obtain ⟨as, r⟩ := nats_reads (h := h) y
    exact ⟨_, .cons (.int _ _) r⟩
theorem nat_reads {h₀ h : Heap} {L D : Addr} {news : List (Addr × Obj)} {vs : List Value} {ns : List Nat} {n : Nat} (N : News h₀ L h news) (hm : (D, listOf vs.toArray n) ∈ news) (x : Nats vs ns) : ∃ as, Reads h (.ref D) (natD ns) as := by
  obtain ⟨as, r⟩ := nats_reads (h := h) x
  exact ⟨_, reads_list_at (N _ hm).1 rfl rfl (by simpa using r)⟩
theorem row_lay : ∀ ps : List (Int × Int), PyData.canLayAll0 (ps.map pd) = true ∧ PyData.depthAll (ps.map pd) ≤ 1
  | [] => by simp [PyData.canLayAll0, PyData.depthAll]
  | p :: ps => by
    have := row_lay ps
    simp only [List.map_cons, PyData.canLayAll0, PyData.depthAll, pd, PyData.canLay0, PyData.depth]
    simp [this.1]; omega
theorem nat_lay : ∀ ns : List Nat, PyData.canLayAll0 (ns.map fun (n : Nat) => PyData.int (n : Int)) = true ∧ PyData.depthAll (ns.map fun (n : Nat) => PyData.int (n : Int)) = 0
  | [] => by simp [PyData.canLayAll0, PyData.depthAll]
  | p :: ps => by
    have := nat_lay ps
    simp only [List.map_cons, PyData.canLayAll0, PyData.depthAll, PyData.canLay0, PyData.depth]
    simp [this.1, this.2]
theorem row_shaped (ps : List (Int × Int)) : SeqAt.shaped (rowD ps) = true := by
  have := row_lay ps
  unfold SeqAt.shaped rowD
  simp only [PyData.canLay0, PyData.depth, this.1]
  simp; omega
theorem row_eqv : ∀ ps : List (Int × Int), PyData.eqvAll (ps.map pd) (ps.map pd) = true
  | [] => rfl
  | p :: ps => by
    have := row_eqv ps
    simp [PyData.eqvAll, pd, PyData.eqv, this]
theorem nat_eqv : ∀ ns : List Nat, PyData.eqvAll (ns.map fun (n : Nat) => PyData.int (n : Int)) (ns.map fun (n : Nat) => PyData.int (n : Int)) = true
  | [] => rfl
  | p :: ps => by
    have := nat_eqv ps
    simp [PyData.eqvAll, PyData.eqv, this]
theorem two_shaped (ps : List (Int × Int)) (ns : List Nat) : SeqAt.shaped (.tuple [rowD ps, natD ns]) = true := by
  have h1 := row_lay ps
  have h2 := nat_lay ns
  unfold SeqAt.shaped rowD natD
  simp only [PyData.canLay0, PyData.canLayAll0, PyData.depth, PyData.depthAll, h1.1, h2.1, h2.2]
  simp; omega

section
variable {prog : Program} {w : World} {A : Around} {E : Value → Shared → Prop} {s : Shared} {h₀ : Heap} {L D D' : Addr} {m : Str → Option Value} {news : List (Addr × Obj)} {vs us : List Value} {ps : List (Int × Int)} {n k : Nat}
theorem row_ne {Q : Value → Shared → Prop} (N : News h₀ L s.heap news) (hm : (D, listOf vs.toArray n) ∈ news) (hm' : (D', listOf us.toArray k) ∈ news) (x : Pairs news vs ps) (y : Pairs news us ps) (hu : A.units + 64 < cLine) (h : Q (.bool false) s) :
    wpAny (model prog w) A (compareOp .NotEq (.ref D) (.ref D')) Q E s := by
  obtain ⟨as, r⟩ := row_reads N hm x
  obtain ⟨bs, r'⟩ := row_reads N hm' y
  refine ne_dataH r r' (row_shaped ps) (row_shaped ps) hu ?_
  rw [show PyData.eqv (rowD ps) (rowD ps) = true from by unfold rowD; rw [PyData.eqv]; exact row_eqv ps]
  exact h
theorem row_eq {Q : Value → Shared → Prop} (N : News h₀ L s.heap news) (hm : (D, listOf vs.toArray n) ∈ news) (hm' : (D', listOf us.toArray k) ∈ news) (x : Pairs news vs ps) (y : Pairs news us ps) (hu : A.units + 64 < cLine) (h : Q (.bool true) s) :
    wpAny (model prog w) A (compareOp .Eq (.ref D) (.ref D')) Q E s := by
  obtain ⟨as, r⟩ := row_reads N hm x
  obtain ⟨bs, r'⟩ := row_reads N hm' y
  refine eq_dataH r r' (row_shaped ps) (row_shaped ps) hu ?_
  rw [show PyData.eqv (rowD ps) (rowD ps) = true from by unfold rowD; rw [PyData.eqv]; exact row_eqv ps]
  exact h
theorem two_eq {Q : Value → Shared → Prop} {a b r t r' t' : Addr} {ns : List Nat} {vs' us' : List Value} {n1 n2 n3 n4 n5 n6 : Nat} (N : News h₀ L s.heap news) (ha : (a, tupObj [.ref r, .ref t] n1) ∈ news) (hb : (b, tupObj [.ref r', .ref t'] n2) ∈ news)
    (h1 : (r, listOf vs.toArray n3) ∈ news) (h2 : (t, listOf us.toArray n4) ∈ news) (h3 : (r', listOf vs'.toArray n5) ∈ news) (h4 : (t', listOf us'.toArray n6) ∈ news)
    (x : Pairs news vs ps) (y : Pairs news vs' ps) (x' : Nats us ns) (y' : Nats us' ns) (hu : A.units + 64 < cLine) (h : Q (.bool true) s) :
    wpAny (model prog w) A (compareOp .Eq (.ref a) (.ref b)) Q E s := by
  obtain ⟨as, r1⟩ := row_reads N h1 x
  obtain ⟨bs, r2⟩ := row_reads N h3 y
  obtain ⟨cs, r3⟩ := nat_reads N h2 x'
  obtain ⟨ds, r4⟩ := nat_reads N h4 y'
  refine eq_dataH (reads_tuple_at (N _ ha).1 rfl rfl (.cons r1 (.cons r3 .nil))) (reads_tuple_at (N _ hb).1 rfl rfl (.cons r2 (.cons r4 .nil))) (two_shaped ps ns) (two_shaped ps ns) hu ?_
  rw [show PyData.eqv (.tuple [rowD ps, natD ns]) (.tuple [rowD ps, natD ns]) = true from by
    unfold rowD natD; simp [PyData.eqv, PyData.eqvAll, row_eqv, nat_eqv]]
  exact h

/-! slices -/
theorem slice_take {value slice : Expr} {t : Tok} {Q : Value → Shared → Prop} (b : Nat) (F : Fr h₀ L s.heap m) (N : News h₀ L s.heap news) (hm : (D, listOf vs.toArray n) ∈ news) (hz : vs.length < 1000)
    (h : ∀ D' s', rst s' = rst s → Fr h₀ L s'.heap m → News h₀ L s'.heap ((D', listOf (vs.take b).toArray 0) :: news) → (∀ p ∈ news, p.1 < D') → Q (.ref D') s')
    (hs : subscripted slice false (.ref D) (.ref s.heap.objs.size) = operate [.ref s.heap.objs.size, .ref D] (getItem (.ref D) (.ref s.heap.objs.size)) := by with_unfolding_all rfl) (ht : ∀ r, letTemporaryGo value (.ref D) r = pure () := by intro _; with_unfolding_all rfl) :
    wpAny (model prog w) A (subscriptTail value slice (.ref D) (.ref s.heap.objs.size)) Q E { s with heap := s.heap.push { cls := .type "slice", data := .fields #[.none, .int (b : Int) t, .none] } } := by
  refine kmk_slice_lit (its := vs.toArray) (zs := vs.take b) F N ⟨_, (N _ hm).1, rfl, n, rfl⟩ IsPart.none (IsPart.int _ _) ?_ (fun D' h' F' N' l => h D' _ rfl F' N' l) hs ht (by rw [sizeLine_eq]; simp; omega)
  rw [slicePick_upto']
theorem pick_back (a b : Value) (r : List Value) : (slicePick (a :: b :: r).toArray (some 1) none (some (-1))).toList = [b, a] := by
  have e : sliceBounds (some 1) none (some (-1)) (a :: b :: r).toArray.size = (1, -1, -1) := by
    simp [sliceBounds]
    omega
  unfold slicePick
  rw [e]
  have e2 : sliceRange 1 (-1) (-1) = [1, 0] := by decide
  rw [e2]
  simp
theorem slice_back {value slice : Expr} {t u : Tok} {v1 v2 : Value} {r : List Value} {ops : List Value} {Q : Value → Shared → Prop} (F : Fr h₀ L s.heap m) (N : News h₀ L s.heap news) (hm : (D, listOf vs.toArray n) ∈ news) (hv : vs = v1 :: v2 :: r) (hz : vs.length < 1000)
    (h : ∀ D' s', rst s' = rst s → Fr h₀ L s'.heap m → News h₀ L s'.heap ((D', listOf (List.toArray [v2, v1]) 0) :: news) → (∀ p ∈ news, p.1 < D') → Q (.ref D') s')
    (hs : subscripted slice false (.ref D) (.ref s.heap.objs.size) = operate ops (getItem (.ref D) (.ref s.heap.objs.size)) := by with_unfolding_all rfl) (ht : ∀ r, letTemporaryGo value (.ref D) r = pure () := by intro _; with_unfolding_all rfl) :
    wpAny (model prog w) A (subscriptTail value slice (.ref D) (.ref s.heap.objs.size)) Q E { s with heap := s.heap.push { cls := .type "slice", data := .fields #[.int 1 t, .none, .int (-1) u] } } := by
  subst hv
  exact kmk_slice3_lit (its := (v1 :: v2 :: r).toArray) (zs := [v2, v1]) F N ⟨_, (N _ hm).1, rfl, n, rfl⟩ (IsPart.int _ _) IsPart.none (IsPart.int _ _) (by decide) (pick_back v1 v2 r) (fun D' h' F' N' l => h D' _ rfl F' N' l) hs ht (by rw [sizeLine_eq]; simp at hz ⊢; omega)
end

/-! sorted of a list of two pairs at most -/
section
variable {prog : Program} {w : World} {A : Around} {E : Value → Shared → Prop} {s : Shared} {h₀ : Heap} {L D : Addr} {m : Str → Option Value} {news : List (Addr × Obj)} {vs : List Value} {n : Nat}

theorem sort_few {a : Addr} {Pq : PySem.Fin → Shared → Prop} (ho : s.heap.get? a = some (seqObj "list" vs.toArray n)) (h2 : vs.length < 2)
    (h : Pq (.done (.ret .none)) { s with heap := sortedHeap s.heap a vs vs.toArray }) : wpAny (model prog w) A (Builtin.«list.sort» ⟨[.ref a], []⟩) Pq E s := by
  rw [list_sort_plain]
  have hlt : a < s.heap.objs.size := Heap.lt_size ho
  have hz : vs.toArray.size < 2 := by simpa using h2
  have hline : vs.toArray.size ≤ sizeLine := by rw [sizeLine_eq]; omega
  refine wpAny_bind (listItems_at ho rfl (wpAny_bind (listUpdate_at ho rfl ?_ hline (Nat.zero_le _))))
  obtain ⟨e1, ho1⟩ : ∃ e1, (s.heap.update a (Obj.mapSeq fun _ => #[])).get? a = some (seqObj "list" #[] e1) := ⟨_, get?_update_seq ho (fun _ => #[])⟩
  refine wpAny_bind (seqEpoch_at ho1 rfl (wpAny_bind (wpAny_newTuple (wpAny_bind (wpAny_newList (wpAny_holding ?_) (Nat.zero_le _))) (by show vs.length ≤ sizeLine; rw [sizeLine_eq]; omega))))
  have ho2 : (((s.heap.update a (Obj.mapSeq fun _ => #[])).push (seqObj "tuple" vs.toArray 0)).push (seqObj "list" #[] 0)).get? a = some (seqObj "list" #[] e1) :=
    Heap.get?_push_of_some _ (Heap.get?_push_of_some _ ho1)
  show wpAny (model prog w) A _ Pq E { s with heap := ((s.heap.update a (Obj.mapSeq fun _ => #[])).push (seqObj "tuple" vs.toArray 0)).push (seqObj "list" #[] 0) }
  dsimp only
  rw [if_pos hz, if_pos hz]
  refine wpAny_bind (wpAny_pure ?_)
  rw [StateT.run_pure]
  refine wpAny_bind (wpAny_pure ?_)
  dsimp only
  have hout : (arrOf (SortSt.mk' general' (vs.toArray.zip vs.toArray) #[] 7 none)).map (·.2) = vs.toArray := by
    show (vs.toArray.zip vs.toArray).map (·.2) = vs.toArray
    simp [List.map_snd_zip]
  rw [hout]
  refine wpAny_bind (seqEpoch_at ho2 rfl (wpAny_bind (listUpdate_at ho2 rfl ?_ (Nat.zero_le _) (Nat.le_succ_of_le hline))))
  simp only [bne_self_eq_false, Bool.false_eq_true, if_false]
  exact wpAny_pure h

theorem sorted_few {Q : Value → Shared → Prop} (F : Fr h₀ L s.heap m) (N : News h₀ L s.heap news) (hm : (D, listOf vs.toArray n) ∈ news) (h2 : vs.length < 2)
    (h : ∀ D' s' n', rst s' = rst s → Fr h₀ L s'.heap m → News h₀ L s'.heap ((D', listOf vs.toArray n') :: news) → (∀ p ∈ news, p.1 < D') → Q (.ref D') s') :
    wpAny (model prog w) A (call (.builtin "sorted") [.ref D]) Q E s := by
  have hl : s.heap.IsList D vs.toArray := ⟨_, (N _ hm).1, rfl, n, rfl⟩
  have hline : vs.length ≤ sizeLine := by rw [sizeLine_eq]; omega
  refine PySem.Calls.call_function_entry kind_sorted plain_sorted entry_sorted (args_sorted1 _) ?_
  unfold Builtin.«sorted»
  refine wpAny_bind (m := checkCount "sorted" 1 1 _) (wpAny_pure (wpAny_bind (collect_list hl (wpAny_bind (wpAny_newList ?_ hline)) hline)))
  have hsz : ((s.heap.push (seqObj "list" #[] 0)).update s.heap.objs.size (Obj.mapSeq (· ++ vs.toArray))).objs.size = s.heap.objs.size + 1 := by
    rw [Heap.size_update, size_push']
  have hoL : (((s.heap.push (seqObj "list" #[] 0)).update s.heap.objs.size (Obj.mapSeq (· ++ vs.toArray))).push (seqObj "list" vs.toArray 0)).get? (s.heap.objs.size + 1) = some (seqObj "list" vs.toArray 0) := by
    rw [← hsz]; exact Heap.get?_push_size _ rfl
  show wpAny _ _ _ _ _ { s with heap := ((s.heap.push (seqObj "list" #[] 0)).update s.heap.objs.size (Obj.mapSeq (· ++ vs.toArray))).push (seqObj "list" vs.toArray 0) }
  rw [hsz]
  refine wpAny_bind (wpAny_holding (wpAny_call_entry slot_list_sort ⟨_, hoL, rfl⟩ entry_list_sort (sort_few hoL h2 ⟨_, rfl, ?_⟩) (args_list_sort _)))
  obtain ⟨e, he⟩ := sortedAll_at s.heap vs vs.toArray
  have keep : ∀ b o, s.heap.get? b = some o → (sortedAll s.heap vs vs.toArray).get? b = some o := fun b o hb => sortedAll_old hb
  have hL : L < s.heap.objs.size := F.ns.lt
  refine wpAny_pure ⟨_, rfl, h (s.heap.objs.size + 1) _ e rfl (F.kept keep) (fun p hp => ?_) (fun p hp => Nat.lt_succ_of_lt (Heap.lt_size (N p hp).1))⟩
  rcases List.mem_cons.mp hp with rfl | hp
  · exact ⟨he, Nat.ne_of_gt (Nat.lt_succ_of_lt hL), Heap.get?_none_of_le (Nat.le_trans F.above (Nat.le_succ_of_le (Nat.le_of_lt hL)))⟩
  · exact N.grown keep p hp

theorem key_lt {a b : Addr} {p q : Int × Int} {Q : Bool → Shared → Prop} (N : News h₀ L s.heap news) (ha : PairAt news a p) (hb : PairAt news b q) (h : Q (plt p q) s) :
    wpAny (model prog w) A (keyLt' (tuples' true) (.ref a) (.ref b)) Q E s := by
  obtain ⟨t1, t2, k, hm⟩ := ha
  obtain ⟨u1, u2, k', hm'⟩ := hb
  refine kat_lt (N _ hm).1 rfl (N _ hm').1 rfl ?_
  show KatLex prog w A true _ Q [(.int p.1 t1, .int q.1 u1), (.int p.2 t2, .int q.2 u2)] 0 s
  refine kat_cons (wpAny_eqBool_int ?_)
  by_cases h1 : p.1 = q.1
  · rw [show (p.1 == q.1) = true from beq_iff_eq.mpr h1]
    refine kat_yes (kat_cons (wpAny_eqBool_int ?_))
    by_cases h2 : p.2 = q.2
    · rw [show (p.2 == q.2) = true from beq_iff_eq.mpr h2]
      refine kat_yes (kat_nil ?_)
      have e : plt p q = false := by simp [plt, h1, h2]
      rw [e] at h
      exact h
    · rw [show (p.2 == q.2) = false from beq_eq_false_iff_ne.mpr h2]
      refine kat_no ?_
      show wpAny (model prog w) A (oneLt' false _ _) _ _ _
      refine kat_one _ _ (cmp_ofLt (lt_int ?_))
      have e : plt p q = decide (p.2 < q.2) := by simp [plt, h1]
      rw [e] at h
      exact h
  · rw [show (p.1 == q.1) = false from beq_eq_false_iff_ne.mpr h1]
    refine kat_no ?_
    show wpAny (model prog w) A (oneLt' true _ _) _ _ _
    refine oneLt_int ?_
    have e : plt p q = decide (p.1 < q.1) := by simp [plt, h1]
    rw [e] at h
    exact h

theorem sorted_two {a b : Addr} {p q : Int × Int} {Q : Value → Shared → Prop} (F : Fr h₀ L s.heap m) (N : News h₀ L s.heap news) (hm : (D, listOf (List.toArray [.ref a, .ref b]) n) ∈ news) (ha : PairAt news a p) (hb : PairAt news b q) (hle : plt q p = false)
    (h : ∀ D' s' n', rst s' = rst s → Fr h₀ L s'.heap m → News h₀ L s'.heap ((D', listOf (List.toArray [.ref a, .ref b]) n') :: news) → (∀ p ∈ news, p.1 < D') → Q (.ref D') s') :
    wpAny (model prog w) A (call (.builtin "sorted") [.ref D]) Q E s := by
  refine kat_sorted (vs := [.ref a, .ref b]) F N ⟨_, (N _ hm).1, rfl, n, rfl⟩ (by simp) (by simp) ?_
  intro D' e1 h' F' N' lD
  have N'' : News h₀ L h' news := news_tail N'
  obtain ⟨t1, t2, k, hma⟩ := id ha
  obtain ⟨u1, u2, k', hmb⟩ := id hb
  refine kat_kind (fs := [.int p.1 t1, .int q.1 u1]) (T := .type "int") (KatTups.cons (N'' _ hma).1 rfl rfl rfl (KatTups.cons (N'' _ hmb).1 rfl rfl rfl KatTups.nil)) (by simp) ?_ (by decide) ?_
  · intro v hv
    simp only [List.mem_cons, List.not_mem_nil, or_false] at hv
    rcases hv with rfl | rfl
    · exact Looks.of_pure rfl
    · exact Looks.of_pure rfl
  show kas_ask prog w A.in1.in1 _ [.ref a, .ref b] 1 0 _ _
  show wpAny (model prog w) A.in1.in1 (keyLt' (tuples' true) (.ref b) (.ref a)) _ _ _
  refine key_lt (news := news) N'' hb ha ?_
  rw [hle]
  show KasFin h₀ L m D' e1 [.ref a, .ref b] _ _
  refine KasFin.intro (g := fun o => (D', o) :: news) F' N' ?_ ?_
  · exact UpdF.head fun p hp => Nat.ne_of_lt (lD p hp)
  · intro h3 c F3 N3
    exact h D' _ c rfl F3 N3 lD
end

/-! a for loop over a list of the ledger; two lists added -/
section
variable {prog : Program} {w : World} {A : Around} {E : Value → Shared → Prop} {s : Shared} {h₀ : Heap} {L D b : Addr} {m : Str → Option Value} {news : List (Addr × Obj)} {vs us : List Value} {n k : Nat}
theorem add_l {Q : Value → Shared → Prop} (F : Fr h₀ L s.heap m) (N : News h₀ L s.heap news) (hm : (D, listOf vs.toArray n) ∈ news) (hb : (b, listOf us.toArray k) ∈ news) (hz : vs.length + us.length < 1000)
    (h : ∀ d s', rst s' = rst s → Fr h₀ L s'.heap m → News h₀ L s'.heap ((d, listOf (vs ++ us).toArray 0) :: news) → (∀ p ∈ news, p.1 < d) → Q (.ref d) s') :
    wpAny (model prog w) A (binaryOp .Add (.ref D) (.ref b)) Q E s :=
  add_lists F N ⟨_, (N _ hm).1, rfl, n, rfl⟩ ⟨_, (N _ hb).1, rfl, k, rfl⟩ (fun h' F' N' => h _ _ rfl F' N' fun p hp => Heap.lt_size (N p hp).1) (by rw [sizeLine_eq]; omega)
theorem copy_b {Q : Value → Shared → Prop} (F : Fr h₀ L s.heap m) (N : News h₀ L s.heap news) (hl : h₀.IsList D vs.toArray) (hz : vs.length < 1000)
    (h : ∀ b s' n', rst s' = rst s → Fr h₀ L s'.heap m → News h₀ L s'.heap ((b, listOf vs.toArray n') :: news) → (∀ p ∈ news, p.1 < b) → Q (.ref b) s') :
    wpAny (model prog w) A (call (.type "list") [.ref D]) Q E s :=
  list_copyK F N (let ⟨o, ho, r⟩ := hl; ⟨o, F.keep _ _ ho, r⟩) (fun b c h' F' N' l => h b _ c rfl F' N' l) (by rw [sizeLine_eq]; simp; omega)

abbrev lstIt (l : Addr) : Obj := { cls := .type "list_iterator", data := .fields #[.ref l, .int 0 0] }
theorem iter_lst {Q : Value → Shared → Prop} (F : Fr h₀ L s.heap m) (N : News h₀ L s.heap news) (hm : (D, listOf vs.toArray n) ∈ news)
    (h : ∀ I s', rst s' = rst s → Fr h₀ L s'.heap m → News h₀ L s'.heap ((I, lstIt D) :: news) → (∀ p ∈ news, p.1 < I) → Q (.ref I) s') : wpAny (model prog w) A (pyIter (.ref D)) Q E s :=
  wpAny_pyIter_list ⟨_, (N _ hm).1, rfl, n, rfl⟩ (h _ _ rfl (F.push _) (N.push F _) fun p hp => Heap.lt_size (N p hp).1)
end

section
variable {prog : Program} {w : World} {A : Around} {E : Value → Shared → Prop} {s : Shared} {h₀ : Heap} {m : Str → Option Value} {news : List (Addr × Obj)}
theorem for_lst {env : Env} {x : Str} {body : List Stmt} {Q : Flow → Shared → Prop} {I ax : Addr} {its : List Value} {k : Nat} (J : Nat → (Str → Option Value) → List (Addr × Obj) → Prop)
    (hh : A.handled = none) (hit : s.heap.get? I = some (lstIt ax)) (h0 : h₀.get? I = none) (hne : ∀ p ∈ news, p.1 ≠ I) (F : Fr h₀ env.locals s.heap m) (N : News h₀ env.locals s.heap news) (hJ : J 0 m news)
    (hax : ∀ i m₁ nx, J i m₁ nx → (ax, listOf its.toArray k) ∈ nx)
    (turn : ∀ i v m₁ news₁ s₁ oI, oI.cls = .type "list_iterator" → rst s₁ = rst s → its[i]? = some v → J i m₁ news₁ → (∀ p ∈ news₁, p.1 ≠ I) → Fr h₀ env.locals s₁.heap (fun y => if y = x then some v else m₁ y) → News h₀ env.locals s₁.heap ((I, oI) :: news₁) →
      wpAny (model prog w) A (execs body env) (FPost h₀ env.locals s J Q i (I, oI)) E s₁)
    (done : ∀ m₁ news₁ s₁, rst s₁ = rst s → Fr h₀ env.locals s₁.heap m₁ → News h₀ env.locals s₁.heap news₁ → (∀ p ∈ news₁, p.1 ≠ I) → J its.length m₁ news₁ → Q .next s₁) :
    LoopAtV prog w A h₀ env x body Q E (.ref I) s := by
  have hIL : env.locals ≠ I := by
    intro e
    obtain ⟨oL, es, ep, hL, hLd, _⟩ := F.ns
    rw [e, hit] at hL
    injection hL with hL
    subst hL
    cases hLd
  have ha := hax _ _ _ hJ
  have hNa := N _ ha
  have hneI : ax ≠ I := hne _ ha
  refine ⟨I, [I, ax], [I], its.toArray.size, _, _, m, news, J, rfl, Walks.list hh I ax hneI its.toArray, ?_, ?_, ?_, ⟨⟨_, hit, rfl, rfl⟩, ⟨_, hNa.1, rfl, k, rfl⟩⟩, F, N, hJ, ?_, ?_⟩
  · intro h
    rcases List.mem_cons.mp h with h | h
    · exact hIL h
    · exact hNa.2.1 (List.mem_singleton.mp h).symm
  · intro b hb
    rw [List.mem_singleton.mp hb]; exact h0
  · intro p hp hb
    exact hne p hp (List.mem_singleton.mp hb)
  · rintro i v m₁ news₁ s₁ own ⟨h', tk, rfl⟩ hi hv hJ₁ hoff hown hget hall hst F₁ N₁
    have hn₁ : ∀ p ∈ news₁, p.1 ≠ I := fun p hp e => hoff p hp (by rw [e]; exact List.mem_singleton.mpr rfl)
    obtain ⟨oI, hoI, hcI, hdI⟩ := hst.1
    have hmem := hall I (.head _) h0 _ hoI
    refine wpAny_mono (turn i v m₁ news₁ _ oI hcI rfl (by simpa using hv) hJ₁ hn₁ F₁ (fun p hp => ?_)) (fun f s₃ h₃ => ?_) (fun _ _ x => x)
    · rcases List.mem_cons.mp hp with rfl | hp
      · exact N₁ _ (List.mem_append_left _ hmem)
      · exact N₁ _ (List.mem_append_right _ hp)
    · have fin : FEnd h₀ env.locals s J i (I, oI) s₃ → LoopStepU h₀ env.locals [I] own (J (i + 1)) { s with heap := h', toks := tk } .next s₃ := by
        rintro ⟨m₂, news₂, e, F₂, N₂, hn₂, hJ₂⟩
        refine ⟨rfl, s₃.heap, s₃.toks, m₂, news₂, rst_eq (s := { s with heap := h', toks := tk }) e, F₂, fun p hp => ?_, fun p hp hb => hn₂ p hp (List.mem_singleton.mp hb), hJ₂⟩
        rcases List.mem_append.mp hp with hp | hp
        · have e2 := hget p hp
          rcases List.mem_cons.mp (hown p hp) with e1 | e1
          · rw [e1] at e2
            have e3 : some p.2 = some _ := e2.symm.trans hoI
            have e4 : p = (I, oI) := Prod.ext e1 (Option.some.inj e3)
            rw [e4]
            exact N₂ _ (.head _)
          · have e1 := List.mem_singleton.mp e1
            rw [e1] at e2
            have hN1 := (N₁ _ (List.mem_append_right _ (hax _ _ _ hJ₁))).1
            have e3 : some p.2 = some _ := e2.symm.trans hN1
            have e4 : p = (ax, listOf its.toArray k) := Prod.ext e1 (Option.some.inj e3)
            rw [e4]
            exact N₂ _ (.tail _ (hax _ _ _ hJ₂))
        · exact N₂ p (.tail _ hp)
      cases f with
      | ret v => exact .ret h₃
      | brk => exact .brk h₃
      | next => exact .next (fin h₃)
      | cont => exact .cont (fin h₃)
  · intro h' tk m' news' F' N' hoff hJ'
    exact done m' news' _ rfl F' N' (fun p hp e => hoff p hp (by rw [e]; exact List.mem_singleton.mpr rfl)) (by simpa using hJ')
end
theorem ints_get : ∀ {vs : List Value} {ns : List Int} (_ : IntsAre vs ns) {i : Nat} (_ : i < ns.length), ∃ t, vs[i]? = some (.int (ns.getD i 0) t)
  | _, _, .cons n t h, 0, _ => ⟨t, by simp⟩
  | _, _, .cons n t h, i + 1, hi => by
    obtain ⟨t', e⟩ := ints_get h (i := i) (by simpa using hi)
    exact ⟨t', by simpa using e⟩
theorem get_int {prog : Program} {w : World} {A : Around} {E : Value → Shared → Prop} {s : Shared} {h₀ : Heap} {L D : Addr} {news : List (Addr × Obj)} {vs : List Value} {ns : List Int} {n : Nat} {k : Int} {u : Tok} {value slice : Expr} {Q : Value → Shared → Prop}
    (N : News h₀ L s.heap news) (hm : (D, listOf vs.toArray n) ∈ news) (hP : IntsAre vs ns) (h0 : 0 ≤ k) (h1 : k < ns.length) (hfit : ns.length < 1000)
    (h : ∀ t, Q (.int (ns.getD k.toNat 0) t) s)
    (hs : subscripted slice false (.ref D) (.int k u) = operate [.ref D, .int k u] (getItem (.ref D) (.int k u)) := by with_unfolding_all rfl) (hg : ∀ r, letTemporaryGo value (.ref D) r = pure () := by intro _; with_unfolding_all rfl) :
    wpAny (model prog w) A (subscriptTail value slice (.ref D) (.int k u)) Q E s := by
  obtain ⟨t, e⟩ := ints_get hP (i := k.toNat) (by omega)
  exact kim_list N hm rfl rfl h0 (by omega) e (h t) hs hg

/-! the pure part: order, heaps, rotations -/
def le (p q : P) : Prop := plt q p = false
theorem le_rfl (p : P) : le p p := by unfold le plt; simp
theorem le_tr {p q r : P} (h : le p q) (h2 : le q r) : le p r := by
  unfold le plt at *
  simp only [decide_eq_false_iff_not] at *
  omega
theorem le_as {p q : P} (h : le p q) (h2 : le q p) : p = q := by
  unfold le plt at *
  simp only [decide_eq_false_iff_not] at *
  obtain ⟨a, b⟩ := p
  obtain ⟨c, d⟩ := q
  have h3 : a = c := by dsimp only at *; omega
  have h4 : b = d := by dsimp only at *; omega
  rw [h3, h4]
theorem le_of_lt {p q : P} (h : plt p q = true) : le p q := by
  unfold le plt at *
  simp only [decide_eq_false_iff_not, decide_eq_true_eq] at *
  omega

theorem gs (l : List P) (a b : Nat) (x : P) : (l.set a x).getD b (0, 0) = if a = b ∧ a < l.length then x else l.getD b (0, 0) := by
  rw [List.getD_eq_getElem?_getD, List.getD_eq_getElem?_getD, List.getElem?_set]
  by_cases h : a = b
  · subst h
    by_cases h2 : a < l.length
    · simp [h2]
    · simp [h2]
  · simp [h]
theorem gs_ne {l : List P} {a b : Nat} {x : P} (h : a ≠ b) : (l.set a x).getD b (0, 0) = l.getD b (0, 0) := by rw [gs, if_neg (fun z => h z.1)]
theorem gs_eq {l : List P} {a : Nat} {x : P} (h : a < l.length) : (l.set a x).getD a (0, 0) = x := by rw [gs, if_pos ⟨rfl, h⟩]
theorem gext {l m : List P} (hl : l.length = m.length) (h : ∀ a, a < l.length → l.getD a (0, 0) = m.getD a (0, 0)) : l = m := by
  apply List.ext_getElem hl
  intro a h1 h2
  have := h a h1
  simpa [List.getD_eq_getElem?_getD, h1, h2] using this

def HG (k : Nat) (l : List P) : Prop := ∀ c, 0 < c → k ≤ (c - 1) / 2 → c < l.length → le (l.getD ((c - 1) / 2) (0, 0)) (l.getD c (0, 0))
theorem HG.mono {k k' : Nat} {l : List P} (h : HG k l) (hk : k ≤ k') : HG k' l := fun c h0 h1 h2 => h c h0 (by omega) h2
theorem HG.half (l : List P) : HG (l.length / 2) l := fun c h0 h1 h2 => by omega

inductive Dsc (i : Nat) : Nat → Prop
  | refl : Dsc i i
  | l {p : Nat} : Dsc i p → Dsc i (2 * p + 1)
  | r {p : Nat} : Dsc i p → Dsc i (2 * p + 2)
theorem Dsc.ge {i q : Nat} (h : Dsc i q) : i ≤ q := by
  induction h with
  | refl => omega
  | l _ ih => omega
  | r _ ih => omega
theorem Dsc.par {i q : Nat} (h : Dsc i q) (hq : i < q) : Dsc i ((q - 1) / 2) := by
  cases h with
  | refl => omega
  | l h => rename_i p; rw [show (2 * p + 1 - 1) / 2 = p by omega]; exact h
  | r h => rename_i p; rw [show (2 * p + 2 - 1) / 2 = p by omega]; exact h
theorem Dsc.top {i q : Nat} (h : Dsc i q) : q = i ∨ Dsc (2 * i + 1) q ∨ Dsc (2 * i + 2) q := by
  induction h with
  | refl => exact .inl rfl
  | l h ih =>
    rcases ih with rfl | ih | ih
    · exact .inr (.inl .refl)
    · exact .inr (.inl ih.l)
    · exact .inr (.inr ih.l)
  | r h ih =>
    rcases ih with rfl | ih | ih
    · exact .inr (.inr .refl)
    · exact .inr (.inl ih.r)
    · exact .inr (.inr ih.r)
theorem Dsc.nd {i q : Nat} (h : Dsc i q) : ∃ k, q = Mine.nd i k := by
  induction h with
  | refl => exact ⟨0, (nd_zero i).symm⟩
  | l h ih => obtain ⟨k, rfl⟩ := ih; exact ⟨2 * k + 1, (nd_l i k).symm⟩
  | r h ih => obtain ⟨k, rfl⟩ := ih; exact ⟨2 * k + 2, (nd_r i k).symm⟩
theorem nd_dsc (i k : Nat) : Dsc i (nd i k) := by
  induction k using Nat.strongRecOn with
  | ind k ih =>
    by_cases h0 : k = 0
    · subst h0; rw [nd_zero]; exact .refl
    · obtain ⟨q, h | h⟩ : ∃ q, k = 2 * q + 1 ∨ k = 2 * q + 2 := ⟨(k - 1) / 2, by omega⟩
      · subst h; rw [nd_l]; exact (ih q (by omega)).l
      · subst h; rw [nd_r]; exact (ih q (by omega)).r
theorem nd_inj {i p q : Nat} (h : nd i p = nd i q) : p = q := by
  rcases Nat.lt_trichotomy p q with h1 | h1 | h1
  · have := nd_mono (i := i) h1; omega
  · exact h1
  · have := nd_mono (i := i) h1; omega
theorem nd_par {i k : Nat} (h : 0 < k) : (nd i k - 1) / 2 = nd i ((k - 1) / 2) := by
  obtain ⟨q, h | h⟩ : ∃ q, k = 2 * q + 1 ∨ k = 2 * q + 2 := ⟨(k - 1) / 2, by omega⟩
  · subst h; rw [nd_l, show (2 * q + 1 - 1) / 2 = q by omega]; omega
  · subst h; rw [nd_r, show (2 * q + 2 - 1) / 2 = q by omega]; omega
theorem nd_gt {i k : Nat} (h : 0 < k) : i < nd i k := by
  have := nd_mono (i := i) h; rw [nd_zero] at this; exact this
theorem HG.path {i q : Nat} {l : List P} (h : HG i l) (hd : Dsc i q) (hq : q < l.length) : le (l.getD i (0, 0)) (l.getD q (0, 0)) := by
  induction hd with
  | refl => exact le_rfl _
  | l hp ih =>
    rename_i p
    have := h (2 * p + 1) (by omega) (by have := hp.ge; omega) hq
    rw [show (2 * p + 1 - 1) / 2 = p by omega] at this
    exact le_tr (ih (by omega)) this
  | r hp ih =>
    rename_i p
    have := h (2 * p + 2) (by omega) (by have := hp.ge; omega) hq
    rw [show (2 * p + 2 - 1) / 2 = p by omega] at this
    exact le_tr (ih (by omega)) this

/-! un -/
theorem un_HG (l : List P) (i : Nat) (x : P) (q : Nat) (hd : Dsc i q) (h : HG i l) : HG (i + 1) (un l i x q) := by
  fun_induction un l i x q with
  | case1 l q hq ih =>
    refine ih (hd.par hq) ?_
    have hp := (hd.par hq).ge
    intro c h0 h1 h2
    rw [List.length_set] at h2
    rw [gs, gs]
    by_cases e : q = c
    · subst e
      rw [if_neg (by omega), if_pos ⟨rfl, h2⟩]
      exact le_rfl _
    · rw [if_neg (show ¬(q = c ∧ q < l.length) by omega)]
      split
      · rename_i e2
        exact le_tr (h q (by omega) hp e2.2) (by have := h c h0 h1 h2; rw [← e2.1] at this; exact this)
      · exact h c h0 h1 h2
  | case2 l q hq =>
    intro c h0 h1 h2
    rw [List.length_set] at h2
    rw [gs_ne (by omega), gs_ne (by omega)]
    exact h c h0 (by omega) h2
theorem un_inj (l : List P) (i : Nat) (x : P) (q : Nat) (hd : Dsc i q) (hq : q < l.length) : ∀ (m : List P) (y : P), m.length = l.length → un l i x q = un m i y q → x = y ∧ ∀ a, a ≠ q → l.getD a (0, 0) = m.getD a (0, 0) := by
  fun_induction un l i x q with
  | case1 l q h ih =>
    intro m y hm e
    rw [un.eq_def m, if_pos h] at e
    obtain ⟨h1, h2⟩ := ih (hd.par h) (by simp; omega) (m.set q (m.getD ((q - 1) / 2) (0, 0))) y (by simp [hm]) e
    refine ⟨h1, fun a ha => ?_⟩
    by_cases hp : a = (q - 1) / 2
    · have := h2 q (by omega)
      rw [gs_eq hq, gs_eq (by omega)] at this
      rw [hp]; exact this
    · have := h2 a hp
      rw [gs_ne (Ne.symm ha), gs_ne (Ne.symm ha)] at this
      exact this
  | case2 l q h =>
    intro m y hm e
    rw [un.eq_def m, if_neg h] at e
    have hqi : q = i := by have := hd.ge; omega
    subst hqi
    refine ⟨?_, fun a ha => ?_⟩
    · have := congrArg (fun z => z.getD q (0, 0)) e
      simpa only [gs_eq hq, gs_eq (show q < m.length by omega)] using this
    · have := congrArg (fun z => z.getD a (0, 0)) e
      simpa only [gs_ne (Ne.symm ha)] using this
theorem un_set (l : List P) (i : Nat) (x y : P) (q : Nat) (hd : Dsc i q) : un (l.set q y) i x q = un l i x q := by
  rw [un.eq_def (l.set q y), un.eq_def l]
  by_cases h : i < q
  · rw [if_pos h, if_pos h, gs_ne (by omega), List.set_set]
  · have : q = i := by have := hd.ge; omega
    subst this
    rw [if_neg h, if_neg h, List.set_set]
theorem un_at (l : List P) (i : Nat) (x : P) (q : Nat) (hi : i < l.length) : (un l i x q).getD i (0, 0) = x := by
  fun_induction un l i x q with
  | case1 l q h ih => exact ih (by simpa using hi)
  | case2 l q h => exact gs_eq hi
theorem un_off (l : List P) (i : Nat) (x : P) (q : Nat) (hd : Dsc i q) {a : Nat} (ha : ¬ Dsc i a) : (un l i x q).getD a (0, 0) = l.getD a (0, 0) := by
  fun_induction un l i x q with
  | case1 l q h ih =>
    rw [ih (hd.par h), gs_ne]
    intro e; exact ha (e ▸ hd)
  | case2 l q h => rw [gs_ne]; intro e; exact ha (e ▸ .refl)
theorem un_top (l : List P) (i c : Nat) (x : P) (q : Nat) (hc : c = 2 * i + 1 ∨ c = 2 * i + 2) (hd : Dsc c q) : un l i x q = ((un l c x q).set c (l.getD i (0, 0))).set i x := by
  have hp : (c - 1) / 2 = i := by omega
  fun_induction un l c x q with
  | case1 l q h ih =>
    rw [un.eq_def l i x q, if_pos (by omega), ih (hd.par h), gs_ne (by omega)]
  | case2 l q h =>
    have hq : q = c := by have := hd.ge; omega
    subst hq
    rw [un.eq_def l i x q, if_pos (by omega), hp, un.eq_def _ i x i, if_neg (by omega), List.set_set]

/-! no two alike -/
def Inj (l : List P) : Prop := ∀ a b, a < l.length → b < l.length → l.getD a (0, 0) = l.getD b (0, 0) → a = b
theorem inj_swap {v u : List P} {i j : Nat} (hl : v.length = u.length) (hi : i < v.length) (hj : j < v.length) (h1 : u.getD i (0, 0) = v.getD j (0, 0)) (h2 : u.getD j (0, 0) = v.getD i (0, 0)) (h3 : ∀ a, a ≠ i → a ≠ j → u.getD a (0, 0) = v.getD a (0, 0)) (h : Inj v) : Inj u := by
  intro a b ha hb e
  rw [← hl] at ha hb
  by_cases a1 : a = i
  · by_cases b1 : b = i
    · omega
    · by_cases b2 : b = j
      · subst a1; subst b2; rw [h1, h2] at e; exact (h _ _ hb ha e).symm
      · subst a1; rw [h1, h3 b b1 b2] at e; exact absurd (h _ _ hj hb e).symm b2
  · by_cases a2 : a = j
    · by_cases b1 : b = i
      · subst a2; subst b1; rw [h1, h2] at e; exact (h _ _ hb ha e).symm
      · by_cases b2 : b = j
        · omega
        · subst a2; rw [h2, h3 b b1 b2] at e; exact absurd (h _ _ hi hb e).symm b1
    · rw [h3 a a1 a2] at e
      by_cases b1 : b = i
      · subst b1; rw [h1] at e; exact absurd (h _ _ ha hj e) a2
      · by_cases b2 : b = j
        · subst b2; rw [h2] at e; exact absurd (h _ _ ha hi e) a1
        · rw [h3 b b1 b2] at e; exact h _ _ ha hb e
theorem un_Inj (l : List P) (i : Nat) (x : P) (q : Nat) (hd : Dsc i q) (hq : q < l.length) : Inj (un l i x q) ↔ Inj (l.set q x) := by
  fun_induction un l i x q with
  | case1 l q h ih =>
    rw [ih (hd.par h) (by simp; omega)]
    have hpq : (q - 1) / 2 ≠ q := by omega
    have hp : (q - 1) / 2 < l.length := by omega
    have e1 : ((l.set q (l.getD ((q - 1) / 2) (0, 0))).set ((q - 1) / 2) x).getD ((q - 1) / 2) (0, 0) = x := gs_eq (by simpa using hp)
    have e2 : ((l.set q (l.getD ((q - 1) / 2) (0, 0))).set ((q - 1) / 2) x).getD q (0, 0) = l.getD ((q - 1) / 2) (0, 0) := by rw [gs_ne hpq, gs_eq hq]
    have e3 : (l.set q x).getD q (0, 0) = x := gs_eq hq
    have e4 : (l.set q x).getD ((q - 1) / 2) (0, 0) = l.getD ((q - 1) / 2) (0, 0) := gs_ne (Ne.symm hpq)
    have e5 : ∀ a, a ≠ (q - 1) / 2 → a ≠ q → ((l.set q (l.getD ((q - 1) / 2) (0, 0))).set ((q - 1) / 2) x).getD a (0, 0) = (l.set q x).getD a (0, 0) := by
      intro a h1 h2
      rw [gs_ne (Ne.symm h1), gs_ne (Ne.symm h2), gs_ne (Ne.symm h2)]
    exact ⟨inj_swap (i := (q - 1) / 2) (j := q) (by simp) (by simpa using hp) (by simpa using hq) (by rw [e4, e2]) (by rw [e3, e1]) (fun a h1 h2 => (e5 a h1 h2).symm),
      inj_swap (i := (q - 1) / 2) (j := q) (by simp) (by simpa using hp) (by simpa using hq) (by rw [e1, e3]) (by rw [e2, e4]) e5⟩
  | case2 l q h =>
    have : q = i := by have := hd.ge; omega
    subst this
    exact Iff.rfl
def U (l : List P) (i q : Nat) : List P := un l i (l.getD q (0, 0)) q
theorem U_length (l : List P) (i q : Nat) : (U l i q).length = l.length := un_length _ _ _ _
theorem U_Inj {l : List P} {i q : Nat} (hd : Dsc i q) (hq : q < l.length) : Inj (U l i q) ↔ Inj l := by
  unfold U
  rw [un_Inj _ _ _ _ hd hq, set_getD_self rfl]

theorem uniq : ∀ (d i q q' : Nat) (l m : List P), l.length ≤ i + d → l.length = m.length → Dsc i q → Dsc i q' → q < l.length → q' < l.length → HG i l → HG i m → Inj (U l i q) → U l i q = U m i q' → q = q' := by
  intro d
  induction d with
  | zero => intro i q q' l m hd _ h1 _ h3 _ _ _ _ _; have := h1.ge; omega
  | succ d ih =>
    intro i q q' l m hd hl h1 h2 h3 h4 hgl hgm hI e
    have hi : i < l.length := by have := h1.ge; omega
    -- what is known of one side
    have side : ∀ (l : List P) (c q : Nat), i < l.length → q < l.length → (c = 2 * i + 1 ∨ c = 2 * i + 2) → Dsc c q → HG i l →
        (U l i q).getD i (0, 0) = l.getD q (0, 0) ∧ (U l i q).getD c (0, 0) = l.getD i (0, 0) ∧ (∀ a, a ≠ i → a ≠ c → (U l i q).getD a (0, 0) = (U l c q).getD a (0, 0)) ∧ (U l c q).getD c (0, 0) = l.getD q (0, 0) ∧ (U l c q).getD i (0, 0) = l.getD i (0, 0) ∧
        (∀ b, (b = 2 * i + 1 ∨ b = 2 * i + 2) → b ≠ c → (U l i q).getD b (0, 0) = l.getD b (0, 0)) := by
      intro l c q hi hq hc hd hg
      have hcq := hd.ge
      have et := un_top l i c (l.getD q (0, 0)) q hc hd
      have hlu : (un l c (l.getD q (0, 0)) q).length = l.length := un_length _ _ _ _
      have e1 : (U l i q).getD i (0, 0) = l.getD q (0, 0) := un_at _ _ _ _ hi
      have e2 : (U l i q).getD c (0, 0) = l.getD i (0, 0) := by
        unfold U; rw [et, gs_ne (by omega), gs_eq (by omega)]
      have e3 : ∀ a, a ≠ i → a ≠ c → (U l i q).getD a (0, 0) = (U l c q).getD a (0, 0) := by
        intro a a1 a2
        unfold U; rw [et, gs_ne (Ne.symm a1), gs_ne (Ne.symm a2)]
      refine ⟨e1, e2, e3, un_at _ _ _ _ (by omega), un_off _ _ _ _ hd (fun z => by have := z.ge; omega), ?_⟩
      intro b hb hbc
      rw [e3 b (by omega) hbc]
      refine un_off _ _ _ _ hd (fun z => ?_)
      rcases z.top with z | z | z
      · exact hbc z
      · have := z.ge; omega
      · have := z.ge; omega
    have ed : ∀ (l : List P) (c : Nat), (c = 2 * i + 1 ∨ c = 2 * i + 2) → c < l.length → HG i l → le (l.getD i (0, 0)) (l.getD c (0, 0)) := by
      intro l c hc hcl hg
      have := hg c (by omega) (by omega) hcl
      rw [show (c - 1) / 2 = i by omega] at this
      exact this
    have self : ∀ l : List P, U l i i = l := by
      intro l
      unfold U
      rw [un, if_neg (by omega), set_getD_self rfl]
    -- one side stays, the other goes down
    have down : ∀ (l m : List P) (c q' : Nat), l.length = m.length → i < l.length → q' < l.length → (c = 2 * i + 1 ∨ c = 2 * i + 2) → Dsc c q' → Dsc i q' → HG i l → HG i m → Inj l → l = U m i q' → False := by
      intro l m c q' hl hi hq hc hd hd' hgl hgm hI e
      have hcq := hd.ge
      obtain ⟨s1, s2, -⟩ := side m c q' (by omega) (by omega) hc hd hgm
      rw [← e] at s1 s2
      have p1 := ed l c hc (by omega) hgl
      have p2 := hgm.path hd' (by omega)
      rw [← s1, ← s2] at p2
      have := hI _ _ hi (by omega) (le_as p1 p2)
      omega
    have same : ∀ (c : Nat), (c = 2 * i + 1 ∨ c = 2 * i + 2) → Dsc c q → Dsc c q' → q = q' := by
      intro c hc d1 d2
      have hcq := d1.ge
      obtain ⟨s1, s2, s3, s4, s5, -⟩ := side l c q hi h3 hc d1 hgl
      obtain ⟨t1, t2, t3, t4, t5, -⟩ := side m c q' (by omega) (by omega) hc d2 hgm
      refine ih c q q' l m (by omega) hl d1 d2 h3 h4 (hgl.mono (by omega)) (hgm.mono (by omega)) ?_ ?_
      · refine inj_swap (v := U l i q) (i := c) (j := i) (by rw [U_length, U_length]) (by rw [U_length]; omega) (by rw [U_length]; omega) (by rw [s4, s1]) (by rw [s5, s2]) (fun a a1 a2 => (s3 a a2 a1).symm) hI
      · refine gext (by rw [U_length, U_length, hl]) ?_
        intro a _
        by_cases a1 : a = c
        · subst a1; rw [s4, t4, ← s1, ← t1, e]
        · by_cases a2 : a = i
          · subst a2; rw [s5, t5, ← s2, ← t2, e]
          · rw [← s3 a a2 a1, ← t3 a a2 a1, e]
    have diff : ∀ (c c' : Nat), (c = 2 * i + 1 ∨ c = 2 * i + 2) → (c' = 2 * i + 1 ∨ c' = 2 * i + 2) → c ≠ c' → Dsc c q → Dsc c' q' → False := by
      intro c c' hc hc' hne d1 d2
      have hcq := d1.ge
      have hcq' := d2.ge
      obtain ⟨s1, s2, s3, s4, s5, s6⟩ := side l c q hi h3 hc d1 hgl
      obtain ⟨t1, t2, t3, t4, t5, t6⟩ := side m c' q' (by omega) (by omega) hc' d2 hgm
      have p1 := ed l c' hc' (by omega) hgl
      have p2 := ed m c hc (by omega) hgm
      rw [← s2, ← s6 c' hc' (Ne.symm hne)] at p1
      rw [← t2, ← t6 c hc hne, ← e] at p2
      exact hne (hI _ _ (by rw [U_length]; omega) (by rw [U_length]; omega) (le_as p1 p2))
    rcases h1.top with r1 | r1
    · rcases h2.top with r2 | r2
      · omega
      · exfalso
        subst r1
        rw [self l] at e hI
        rcases r2 with r2 | r2
        · exact down l m _ q' hl hi h4 (.inl rfl) r2 h2 hgl hgm hI e
        · exact down l m _ q' hl hi h4 (.inr rfl) r2 h2 hgl hgm hI e
    · rcases h2.top with r2 | r2
      · exfalso
        subst r2
        rw [self m] at e
        rw [e] at hI
        rcases r1 with r1 | r1
        · exact down m l _ q hl.symm (by omega) (by omega) (.inl rfl) r1 h1 hgm hgl hI e.symm
        · exact down m l _ q hl.symm (by omega) (by omega) (.inr rfl) r1 h1 hgm hgl hI e.symm
      · rcases r1 with r1 | r1 <;> rcases r2 with r2 | r2
        · exact same _ (.inl rfl) r1 r2
        · exact (diff _ _ (.inl rfl) (.inr rfl) (by omega) r1 r2).elim
        · exact (diff _ _ (.inr rfl) (.inl rfl) (by omega) r1 r2).elim
        · exact same _ (.inr rfl) r1 r2

/-! siftup: a rotation that makes a heap -/
def Hole (i : Nat) (l : List P) (b : Nat) : Prop :=
  (∀ c, 0 < c → i ≤ (c - 1) / 2 → c < l.length → c ≠ b → (c - 1) / 2 ≠ b → le (l.getD ((c - 1) / 2) (0, 0)) (l.getD c (0, 0))) ∧
  (i < b → ∀ c, 0 < c → (c - 1) / 2 = b → c < l.length → le (l.getD ((b - 1) / 2) (0, 0)) (l.getD c (0, 0)))
theorem Hole.set {i b : Nat} {l : List P} (h : Hole i l b) (x : P) : Hole i (l.set b x) b := by
  refine ⟨fun c h0 h1 h2 h3 h4 => ?_, fun hb c h0 h1 h2 => ?_⟩
  · rw [List.length_set] at h2
    rw [gs_ne (Ne.symm h4), gs_ne (Ne.symm h3)]
    exact h.1 c h0 h1 h2 h3 h4
  · rw [List.length_set] at h2
    rw [gs_ne (by omega), gs_ne (by omega)]
    exact h.2 hb c h0 h1 h2

theorem sd_spec (x : P) (i : Nat) (l : List P) (b : Nat) (hd : Dsc i b) (hb : b < l.length) (hh : Hole i l b) (hx : ∀ c, 0 < c → (c - 1) / 2 = b → c < l.length → le x (l.getD c (0, 0))) :
    ∃ q, Dsc i q ∧ q < l.length ∧ un (sd x i l b) i x q = un l i x b ∧ (sd x i l b).getD q (0, 0) = x ∧ HG i (sd x i l b) := by
  fun_induction sd x i l b with
  | case1 l b h1 h2 ih =>
    have hp := (hd.par h1).ge
    have H1 : Hole i (l.set b (l.getD ((b - 1) / 2) (0, 0))) ((b - 1) / 2) := by
      refine ⟨fun c h0 e1 e2 e3 e4 => ?_, fun hb' c h0 e1 e2 => ?_⟩
      · rw [List.length_set] at e2
        rw [gs, gs]
        by_cases cb : b = c
        · subst cb; exact absurd rfl e4
        · rw [if_neg (show ¬(b = c ∧ b < l.length) by omega)]
          split
          · rename_i e5
            exact hh.2 h1 c h0 e5.1.symm e2
          · rename_i e5
            exact hh.1 c h0 e1 e2 (Ne.symm cb) (by omega)
      · rw [List.length_set] at e2
        rw [gs_ne (by omega), gs]
        have hg := hh.1 ((b - 1) / 2) (by omega) (by have := (hd.par h1).par hb'; have := this.ge; omega) (by omega) (by omega) (by omega)
        split
        · exact hg
        · exact le_tr hg (by have := hh.1 c h0 (by omega) e2 (by omega) (by omega); rw [e1] at this; exact this)
    have H2 : ∀ c, 0 < c → (c - 1) / 2 = (b - 1) / 2 → c < (l.set b (l.getD ((b - 1) / 2) (0, 0))).length → le x ((l.set b (l.getD ((b - 1) / 2) (0, 0))).getD c (0, 0)) := by
      intro c h0 e1 e2
      rw [List.length_set] at e2
      rw [gs]
      split
      · exact le_of_lt h2
      · exact le_tr (le_of_lt h2) (by have := hh.1 c h0 (by omega) e2 (by omega) (by omega); rw [e1] at this; exact this)
    obtain ⟨q, q1, q2, q3, q4, q5⟩ := ih (hd.par h1) (by simp; omega) H1 H2
    refine ⟨q, q1, by simpa using q2, ?_, q4, q5⟩
    rw [q3]
    conv => rhs; rw [un, if_pos h1]
  | case2 l b h1 h2 =>
    refine ⟨b, hd, hb, un_set _ _ _ _ _ hd, gs_eq hb, ?_⟩
    intro c h0 e1 e2
    rw [List.length_set] at e2
    rw [gs, gs]
    by_cases cb : b = c
    · subst cb
      rw [if_neg (by omega), if_pos ⟨rfl, hb⟩]
      simpa [le] using h2
    · rw [if_neg (show ¬(b = c ∧ b < l.length) by omega)]
      split
      · rename_i e5; exact hx c h0 e5.1.symm e2
      · exact hh.1 c h0 e1 e2 (Ne.symm cb) (by omega)
  | case3 l b h1 =>
    have : b = i := by have := hd.ge; omega
    subst this
    refine ⟨b, hd, hb, un_set _ _ _ _ _ hd, gs_eq hb, ?_⟩
    intro c h0 e1 e2
    rw [List.length_set] at e2
    rw [gs, gs, if_neg (show ¬(b = c ∧ b < l.length) by omega)]
    split
    · rename_i e5; exact hx c h0 e5.1.symm e2
    · exact hh.1 c h0 e1 e2 (by omega) (by omega)

theorem kid_par (l : List P) (p : Nat) : (kid l p - 1) / 2 = p := by unfold kid; split <;> omega
theorem kid_dsc {i p : Nat} (l : List P) (h : Dsc i p) : Dsc i (kid l p) := by unfold kid; split; exact h.r; exact h.l
theorem kid_le (l : List P) (p c : Nat) (h0 : 0 < c) (hc : (c - 1) / 2 = p) (hl : c < l.length) : le (l.getD (kid l p) (0, 0)) (l.getD c (0, 0)) := by
  have : c = 2 * p + 1 ∨ c = 2 * p + 2 := by omega
  unfold kid
  split
  · rename_i h
    rcases this with rfl | rfl
    · exact h.2
    · exact le_rfl _
  · rename_i h
    rcases this with rfl | rfl
    · exact le_rfl _
    · have : plt (l.getD (2 * p + 1) (0, 0)) (l.getD (2 * p + 2) (0, 0)) = true := by
        cases e : plt (l.getD (2 * p + 1) (0, 0)) (l.getD (2 * p + 2) (0, 0)) with
        | true => rfl
        | false => exact absurd ⟨hl, e⟩ h
      exact le_of_lt this

theorem desc_spec (i : Nat) (x : P) (l : List P) (p : Nat) (hd : Dsc i p) (hp : p < l.length) (hh : Hole i l p) :
    Dsc i (desc l p).2 ∧ Hole i (desc l p).1 (desc l p).2 ∧ un (desc l p).1 i x (desc l p).2 = un l i x p ∧ ¬ 2 * (desc l p).2 + 1 < l.length := by
  fun_induction desc l p with
  | case1 l p h ih =>
    have hk := kid_lt l p h
    have hkg := kid_gt l p
    have hkp := kid_par l p
    have hge := hd.ge
    have H1 : Hole i (l.set p (l.getD (kid l p) (0, 0))) (kid l p) := by
      refine ⟨fun c h0 e1 e2 e3 e4 => ?_, fun hb' c h0 e1 e2 => ?_⟩
      · rw [List.length_set] at e2
        rw [gs, gs]
        by_cases cb : p = c
        · subst cb
          rw [if_neg (by omega), if_pos ⟨rfl, hp⟩]
          exact hh.2 (by omega) (kid l p) (by omega) hkp hk
        · rw [if_neg (show ¬(p = c ∧ p < l.length) by omega)]
          split
          · rename_i e5; exact kid_le l p c h0 e5.1.symm e2
          · exact hh.1 c h0 e1 e2 (Ne.symm cb) (by omega)
      · rw [List.length_set] at e2
        rw [hkp, gs_eq hp, gs_ne (by omega)]
        have := hh.1 c h0 (by omega) e2 (by omega) (by omega)
        rw [e1] at this
        exact this
    obtain ⟨q1, q2, q3, q4⟩ := ih (kid_dsc l hd) (by simpa using hk) H1
    refine ⟨q1, q2, ?_, by simpa using q4⟩
    rw [q3, un, if_pos (by omega), hkp, gs_eq hp]
    have : (l.set p (l.getD (kid l p) (0, 0))).set (kid l p) (l.getD (kid l p) (0, 0)) = l.set p (l.getD (kid l p) (0, 0)) := set_getD_self (gs_ne (by omega))
    rw [this, un_set _ _ _ _ _ hd]
  | case2 l p h => exact ⟨hd, hh, rfl, h⟩

theorem suF_spec (l : List P) (i : Nat) (hi : i < l.length) (h : HG (i + 1) l) :
    ∃ q, Dsc i q ∧ q < l.length ∧ U (suF l i) i q = l ∧ (suF l i).getD q (0, 0) = l.getD i (0, 0) ∧ HG i (suF l i) := by
  obtain ⟨d1, d2, d3, d4⟩ := desc_spec i (l.getD i (0, 0)) l i .refl hi ⟨fun c h0 e1 e2 e3 e4 => h c h0 (by omega) e2, fun hb => by omega⟩
  have hl := desc_length l i
  have ht := desc_lt l i hi
  unfold suF
  generalize hm : (desc l i).1 = m at *
  generalize hq : (desc l i).2 = b at *
  have e : sdF (m.set b (l.getD i (0, 0))) i b = sd (l.getD i (0, 0)) i (m.set b (l.getD i (0, 0))) b := by
    unfold sdF; rw [gs_eq (by omega)]
  rw [e]
  obtain ⟨q, q1, q2, q3, q4, q5⟩ := sd_spec (l.getD i (0, 0)) i (m.set b (l.getD i (0, 0))) b d1 (by simp; omega) (d2.set _) (fun c h0 e1 e2 => by simp at e2; omega)
  refine ⟨q, q1, by simp at q2; omega, ?_, q4, q5⟩
  unfold U
  rw [q4, q3, un_set _ _ _ _ _ d1, d3, un, if_neg (by omega), set_getD_self rfl]

/-! the places from i down as a list of their own -/
noncomputable def Em (l : List P) (i : Nat) (sm : List P) : List P := scat l (belowF i l.length) sm (szF i l.length)
theorem Em_length (l : List P) (i : Nat) (sm : List P) : (Em l i sm).length = l.length := scat_length _ _ _ _
theorem scat_get (l : List P) (i : Nat) (sm : List P) : ∀ j, j ≤ szF i l.length →
    (∀ p, p < j → (scat l (belowF i l.length) sm j).getD (nd i p) (0, 0) = sm.getD p (0, 0)) ∧ (∀ a, (∀ p, p < j → nd i p ≠ a) → (scat l (belowF i l.length) sm j).getD a (0, 0) = l.getD a (0, 0)) := by
  intro j
  induction j with
  | zero => intro _; exact ⟨fun p hp => by omega, fun a _ => rfl⟩
  | succ j ih =>
    intro hj
    obtain ⟨h1, h2⟩ := ih (by omega)
    have hb : (belowF i l.length).getD j 0 = nd i j := belowF_get (by omega)
    have hlt : nd i j < l.length := nd_lt (by omega)
    refine ⟨fun p hp => ?_, fun a ha => ?_⟩
    · rw [scat, hb]
      by_cases e : p = j
      · subst e; rw [gs_eq (by rw [scat_length]; exact hlt)]
      · rw [gs_ne (fun z => e (nd_inj z).symm)]
        exact h1 p (by omega)
    · rw [scat, hb, gs_ne (ha j (by omega))]
      exact h2 a fun p hp => ha p (by omega)
theorem Em_in {l : List P} {i : Nat} {sm : List P} {p : Nat} (h : p < szF i l.length) : (Em l i sm).getD (nd i p) (0, 0) = sm.getD p (0, 0) := (scat_get l i sm _ (Nat.le_refl _)).1 p h
theorem Em_out {l : List P} {i : Nat} {sm : List P} {a : Nat} (h : ∀ p, p < szF i l.length → nd i p ≠ a) : (Em l i sm).getD a (0, 0) = l.getD a (0, 0) := (scat_get l i sm _ (Nat.le_refl _)).2 a h
theorem Em_ext {l m : List P} {i : Nat} {sm : List P} (hl : m.length = l.length) (h1 : ∀ p, p < szF i l.length → m.getD (nd i p) (0, 0) = sm.getD p (0, 0)) (h2 : ∀ a, (∀ p, p < szF i l.length → nd i p ≠ a) → m.getD a (0, 0) = l.getD a (0, 0)) : m = Em l i sm := by
  refine gext (by rw [Em_length, hl]) ?_
  intro a _
  by_cases e : ∃ p, p < szF i l.length ∧ nd i p = a
  · obtain ⟨p, hp, rfl⟩ := e
    rw [h1 p hp, Em_in hp]
  · have e' : ∀ p, p < szF i l.length → nd i p ≠ a := fun p hp z => e ⟨p, hp, z⟩
    rw [h2 a e', Em_out e']
theorem Em_set {l : List P} {i : Nat} {sm : List P} {q : Nat} {y : P} (hq : q < szF i l.length) (hs : sm.length = szF i l.length) : (Em l i sm).set (nd i q) y = Em l i (sm.set q y) := by
  refine Em_ext (by rw [List.length_set, Em_length]) ?_ ?_
  · intro p hp
    rw [gs, gs]
    by_cases e : q = p
    · subst e
      rw [if_pos ⟨rfl, by rw [Em_length]; exact nd_lt hq⟩, if_pos ⟨rfl, by omega⟩]
    · rw [if_neg (fun z => e (nd_inj z.1)), if_neg (fun z => e z.1), Em_in hp]
  · intro a ha
    rw [gs_ne (ha q hq), Em_out ha]
theorem Em_un {l : List P} {i : Nat} (x : P) (sm : List P) (q : Nat) (hq : q < szF i l.length) (hs : sm.length = szF i l.length) : un (Em l i sm) i x (nd i q) = Em l i (un sm 0 x q) := by
  fun_induction un sm 0 x q with
  | case1 sm q h ih =>
    rw [un, if_pos (nd_gt h), nd_par h, Em_in (by omega), Em_set hq hs]
    exact ih (by omega) (by simpa using hs)
  | case2 sm q h =>
    have : q = 0 := by omega
    subst this
    rw [nd_zero, un, if_neg (by omega)]
    have := Em_set (y := x) hq hs
    rw [nd_zero] at this
    exact this
theorem pick_get {l : List P} {i p : Nat} (h : p < szF i l.length) : (pickL l (belowF i l.length)).getD p (0, 0) = l.getD (nd i p) (0, 0) := by
  have hb : (belowF i l.length)[p]? = some (nd i p) := by simp [belowF, h]
  simp [pickL, List.getD_eq_getElem?_getD, hb]
theorem pick_len (l : List P) (i : Nat) : (pickL l (belowF i l.length)).length = szF i l.length := by rw [pickL_length, belowF_length]
theorem Em_pick (l : List P) (i : Nat) : Em l i (pickL l (belowF i l.length)) = l :=
  (Em_ext rfl (fun _ hp => (pick_get hp).symm) (fun _ _ => rfl)).symm
theorem pick_HG {l : List P} {i : Nat} (h : HG (i + 1) l) : HG 1 (pickL l (belowF i l.length)) := by
  intro c h0 h1 h2
  rw [pick_len] at h2
  rw [pick_get h2, pick_get (by omega), ← nd_par h0]
  refine h _ ?_ ?_ (nd_lt h2)
  · have := nd_gt (i := i) h0; omega
  · rw [nd_par h0]; exact nd_gt h1
theorem pick_Inj {l : List P} {i : Nat} (h : Inj l) : Inj (pickL l (belowF i l.length)) := by
  intro a b ha hb e
  rw [pick_len] at ha hb
  rw [pick_get ha, pick_get hb] at e
  exact nd_inj (h _ _ (nd_lt ha) (nd_lt hb) e)
theorem Em_HG {l : List P} {i : Nat} {sm : List P} (hi : i < l.length) (h : HG (i + 1) l) (hs : HG 0 sm) (hl : sm.length = szF i l.length) : HG i (Em l i sm) := by
  intro c h0 h1 h2
  rw [Em_length] at h2
  by_cases e : ∃ p, p < szF i l.length ∧ nd i p = c
  · obtain ⟨p, hp, rfl⟩ := e
    by_cases p0 : p = 0
    · subst p0; rw [nd_zero] at h1 h0; omega
    · rw [nd_par (by omega), Em_in hp, Em_in (by omega)]
      exact hs p (by omega) (by omega) (by omega)
  · have e' : ∀ p, p < szF i l.length → nd i p ≠ c := fun p hp z => e ⟨p, hp, z⟩
    have e2 : ∀ p, p < szF i l.length → nd i p ≠ (c - 1) / 2 := by
      intro p hp z
      have : c = 2 * nd i p + 1 ∨ c = 2 * nd i p + 2 := by omega
      rcases this with r | r
      · rw [← nd_l] at r
        exact e' _ ((szF_iff i l.length _).mp (by omega)) r.symm
      · rw [← nd_r] at r
        exact e' _ ((szF_iff i l.length _).mp (by omega)) r.symm
    rw [Em_out e', Em_out e2]
    have := e2 0 (szF_pos hi)
    rw [nd_zero] at this
    exact h c h0 (by omega) h2

theorem suF_Inj {l : List P} {i : Nat} (hi : i < l.length) (h : HG (i + 1) l) (hI : Inj l) : Inj (suF l i) := by
  obtain ⟨q, q1, q2, q3, q4, q5⟩ := suF_spec l i hi h
  exact (U_Inj q1 (by rw [suF_length]; exact q2)).mp (by rw [q3]; exact hI)

theorem U_eq {l m : List P} {i q : Nat} (hl : l.length = m.length) (hd : Dsc i q) (hq : q < l.length) (e : U l i q = U m i q) : l = m := by
  obtain ⟨h1, h2⟩ := un_inj l i _ q hd hq m _ hl.symm e
  refine gext hl fun a _ => ?_
  by_cases ha : a = q
  · subst ha; exact h1
  · exact h2 a ha

theorem step_spec {l : List P} {i : Nat} (hi : i < l.length) (h : HG (i + 1) l) (hI : Inj l) : stepL l i = suF l i ∧ undoF (suF l i) i (stepJ l i) = l := by
  have hz := szF_pos hi
  have hpl := pick_len l i
  have hsl : (someF l i).length = szF i l.length := someF_length l i
  obtain ⟨q, q1, q2, q3, q4, q5⟩ := suF_spec (pickL l (belowF i l.length)) 0 (by omega) (pick_HG h)
  rw [hpl] at q2
  change U (someF l i) 0 q = _ at q3
  change (someF l i).getD q (0, 0) = _ at q4
  change HG 0 (someF l i) at q5
  rw [pickL_zero hi] at q4
  have hSI : Inj (someF l i) := (U_Inj q1 (by omega)).mp (by rw [q3]; exact pick_Inj hI)
  have hst : stepL l i = Em l i (someF l i) := rfl
  have hJ : stepJ l i = q := by
    have hlt := stepJ_lt hi
    refine hSI _ _ (by rw [hsl]; exact hlt) (by omega) ?_
    rw [q4]
    have h1 : stepJ l i < (someF l i).length := by omega
    have := List.findIdx_getElem (xs := someF l i) (p := fun y => decide (y = l.getD i (0, 0))) (w := h1)
    have h2 : (someF l i)[stepJ l i] = l.getD i (0, 0) := of_decide_eq_true this
    rw [← h2]
    simp [List.getD_eq_getElem?_getD, h1]
  have hU : U (stepL l i) i (nd i q) = l := by
    unfold U
    rw [hst, Em_in q2, Em_un _ _ _ q2 hsl]
    have : un (someF l i) 0 ((someF l i).getD q (0, 0)) q = pickL l (belowF i l.length) := q3
    rw [this, Em_pick]
  obtain ⟨b, b1, b2, b3, b4, b5⟩ := suF_spec l i hi h
  have hL := stepL_length l i
  have hnq : nd i q < l.length := nd_lt q2
  have hb : nd i q = b := by
    refine uniq l.length i (nd i q) b (stepL l i) (suF l i) (by omega) (by rw [suF_length, hL]) (nd_dsc i q) b1 (by omega) (by omega) ?_ b5 (by rw [hU]; exact hI) (by rw [hU, b3])
    rw [hst]
    exact Em_HG hi h q5 hsl
  have hE : stepL l i = suF l i := U_eq (by rw [suF_length, hL]) b1 (by omega) (by rw [b3, ← hb, hU])
  refine ⟨hE, ?_⟩
  rw [hJ, ← hE]
  exact hU

theorem undo_HG {l : List P} {i k : Nat} (h : HG i l) : HG (i + 1) (undoF l i k) := un_HG _ _ _ _ (nd_dsc i k) h
theorem undo_Inj {l : List P} {i k : Nat} (hk : k < szF i l.length) (h : Inj l) : Inj (undoF l i k) := (U_Inj (nd_dsc i k) (nd_lt hk)).mpr h
theorem back_spec {l : List P} {i k : Nat} (hi : i < l.length) (hk : k < szF i l.length) (h : HG i l) (hI : Inj l) : suF (undoF l i k) i = l ∧ stepJ (undoF l i k) i = k := by
  have hl := undoF_length l i k
  have hV := undo_HG (k := k) h
  have hVI := undo_Inj hk hI
  obtain ⟨s1, s2⟩ := step_spec (by omega) hV hVI
  obtain ⟨b, b1, b2, b3, b4, b5⟩ := suF_spec _ i (by omega) hV
  have hJ : stepJ (undoF l i k) i < szF i l.length := by have := stepJ_lt (l := undoF l i k) (i := i) (by omega); rw [hl] at this; exact this
  have e : nd i (stepJ (undoF l i k) i) = nd i k := by
    refine uniq l.length i _ _ (suF (undoF l i k) i) l (by rw [suF_length]; omega) (by rw [suF_length, hl]) (nd_dsc _ _) (nd_dsc _ _) (by rw [suF_length, hl]; exact nd_lt hJ) (by rw [suF_length, hl]; exact nd_lt hk) b5 h ?_ ?_
    · show Inj (undoF (suF (undoF l i k) i) i (stepJ (undoF l i k) i))
      rw [s2]; exact hVI
    · exact s2
  refine ⟨U_eq (q := nd i k) (by rw [suF_length, hl]) (nd_dsc _ _) (by rw [suF_length, hl]; exact nd_lt hk) ?_, nd_inj e⟩
  rw [← e]
  exact s2.trans (by show un _ _ _ _ = _; rw [e]; rfl)

/-! all the steps -/
noncomputable def ntL (l : List P) : Nat → List Nat
  | 0 => []
  | k + 1 => ntL (suF l k) k ++ [stepJ l k]
theorem ntL_length : ∀ (k : Nat) (l : List P), (ntL l k).length = k
  | 0, _ => rfl
  | k + 1, l => by rw [ntL, List.length_append, ntL_length k]; rfl
def undoK (d : List Nat) (l : List P) : Nat → List P
  | 0 => l
  | k + 1 => undoF (undoK d l k) k (d.getD k 0)
theorem undoK_length (d : List Nat) (l : List P) : ∀ k, (undoK d l k).length = l.length
  | 0 => rfl
  | k + 1 => by rw [undoK, undoF_length, undoK_length d l k]
theorem undoK_app (d e : List Nat) (l : List P) : ∀ k, k ≤ d.length → undoK (d ++ e) l k = undoK d l k
  | 0, _ => rfl
  | k + 1, h => by
    rw [undoK, undoK, undoK_app d e l k (by omega)]
    congr 1
    simp [List.getD_eq_getElem?_getD, List.getElem?_append_left (show k < d.length by omega)]
theorem hfy_HG : ∀ (k : Nat) (l : List P), k ≤ l.length → HG k l → HG 0 (hfy l k)
  | 0, _, _, h => h
  | k + 1, l, hk, h => by
    rw [hfy]
    obtain ⟨q, q1, q2, q3, q4, q5⟩ := suF_spec l k (by omega) h
    exact hfy_HG k _ (by rw [suF_length]; omega) q5
theorem hfy_Inj : ∀ (k : Nat) (l : List P), k ≤ l.length → HG k l → Inj l → Inj (hfy l k)
  | 0, _, _, _, h => h
  | k + 1, l, hk, h, hI => by
    rw [hfy]
    obtain ⟨q, q1, q2, q3, q4, q5⟩ := suF_spec l k (by omega) h
    exact hfy_Inj k _ (by rw [suF_length]; omega) q5 (suF_Inj (by omega) h hI)
theorem stepsG_eq : ∀ (k : Nat) (l : List P) (no : List Nat), k ≤ l.length → HG k l → Inj l → stepsG k l no = (hfy l k, no ++ (ntL l k).reverse)
  | 0, l, no, _, _, _ => by simp [stepsG, hfy, ntL]
  | k + 1, l, no, hk, h, hI => by
    obtain ⟨q, q1, q2, q3, q4, q5⟩ := suF_spec l k (by omega) h
    rw [stepsG, (step_spec (by omega) h hI).1, stepsG_eq k _ _ (by rw [suF_length]; omega) q5 (suF_Inj (by omega) h hI)]
    simp [hfy, ntL]
theorem undo_noted : ∀ (k : Nat) (l : List P), k ≤ l.length → HG k l → Inj l → undoK (ntL l k) (hfy l k) k = l
  | 0, _, _, _, _ => rfl
  | k + 1, l, hk, h, hI => by
    obtain ⟨q, q1, q2, q3, q4, q5⟩ := suF_spec l k (by omega) h
    have hn := ntL_length k (suF l k)
    rw [undoK, hfy, ntL, undoK_app _ _ _ k (by omega), undo_noted k _ (by rw [suF_length]; omega) q5 (suF_Inj (by omega) h hI)]
    have : (ntL (suF l k) k ++ [stepJ l k]).getD k 0 = stepJ l k := by
      simp [List.getD_eq_getElem?_getD, List.getElem?_append_right, hn]
    rw [this]
    exact (step_spec (by omega) h hI).2
theorem ntL_lt : ∀ (k : Nat) (l : List P), k ≤ l.length → ∀ j, j < k → (ntL l k).getD j 0 < szF j l.length
  | 0, _, _, j, hj => by omega
  | k + 1, l, hk, j, hj => by
    have hn := ntL_length k (suF l k)
    rw [ntL]
    by_cases e : j = k
    · subst e
      have : (ntL (suF l j) j ++ [stepJ l j]).getD j 0 = stepJ l j := by
        simp [List.getD_eq_getElem?_getD, List.getElem?_append_right, hn]
      rw [this]
      exact stepJ_lt (by omega)
    · have : (ntL (suF l k) k ++ [stepJ l k]).getD j 0 = (ntL (suF l k) k).getD j 0 := by
        simp [List.getD_eq_getElem?_getD, List.getElem?_append_left (show j < (ntL (suF l k) k).length by omega)]
      rw [this]
      have := ntL_lt k (suF l k) (by rw [suF_length]; omega) j (by omega)
      rw [suF_length] at this
      exact this
theorem undo_drawn (d : List Nat) (l : List P) (h : HG 0 l) (hI : Inj l) : ∀ k, k ≤ l.length → k ≤ d.length → (∀ j, j < k → d.getD j 0 < szF j l.length) →
    HG k (undoK d l k) ∧ Inj (undoK d l k) ∧ hfy (undoK d l k) k = l ∧ ntL (undoK d l k) k = d.take k
  | 0, _, _, _ => ⟨h, hI, rfl, by simp [ntL]⟩
  | k + 1, hk, hd, hj => by
    obtain ⟨a1, a2, a3, a4⟩ := undo_drawn d l h hI k (by omega) (by omega) (fun j h => hj j (by omega))
    have hl := undoK_length d l k
    have hk' : d.getD k 0 < szF k (undoK d l k).length := by rw [hl]; exact hj k (by omega)
    obtain ⟨b1, b2⟩ := back_spec (by omega) hk' a1 a2
    refine ⟨?_, ?_, ?_, ?_⟩
    · rw [undoK]; exact undo_HG a1
    · rw [undoK]; exact undo_Inj hk' a2
    · rw [undoK, hfy, b1, a3]
    · rw [undoK, ntL, b1, b2, a4, List.take_add_one]
      congr 1
      have : d[k]? = some d[k] := by simp
      simp [List.getD_eq_getElem?_getD, this]

/-! what the law asks -/
theorem heap_ok {l : List P} : ∀ k, 0 < k → k < l.length → plt ((heapF l).getD k (0, 0)) ((heapF l).getD ((k - 1) / 2) (0, 0)) = false := by
  intro k h0 h1
  exact hfy_HG _ l (by omega) (HG.half l) k h0 (by omega) (by rw [hfy_length]; exact h1)
theorem steps_ok {l : List P} (hI : Inj l) : stepsF l = (heapF l, ntL l (l.length / 2)) := by
  unfold stepsF
  rw [stepsG_eq _ l [] (by omega) (HG.half l) hI]
  simp [heapF]
theorem noted_ok {l : List P} (hI : Inj l) : undoK (ntL l (l.length / 2)) (heapF l) (l.length / 2) = l := undo_noted _ l (by omega) (HG.half l) hI
theorem drawn_ok {l : List P} (hI : Inj l) (d : List Nat) (hd : d.length = l.length / 2) (hj : ∀ j, j < l.length / 2 → d.getD j 0 < szF j l.length) :
    heapF (undoK d (heapF l) (l.length / 2)) = heapF l ∧ stepsF (undoK d (heapF l) (l.length / 2)) = (heapF l, d) := by
  have hl := heapF_length l
  have hG : HG 0 (heapF l) := hfy_HG _ l (by omega) (HG.half l)
  have hHI : Inj (heapF l) := hfy_Inj _ l (by omega) (HG.half l) hI
  obtain ⟨a1, a2, a3, a4⟩ := undo_drawn d (heapF l) hG hHI (l.length / 2) (by omega) (by omega) (by rw [hl]; exact hj)
  have hu := undoK_length d (heapF l) (l.length / 2)
  have e : (undoK d (heapF l) (l.length / 2)).length / 2 = l.length / 2 := by rw [hu, hl]
  have h1 : heapF (undoK d (heapF l) (l.length / 2)) = heapF l := by
    show hfy _ ((undoK d (heapF l) (l.length / 2)).length / 2) = _
    rw [e]
    exact a3
  refine ⟨h1, ?_⟩
  rw [steps_ok a2, h1, e, a4, ← hd, List.take_length]

/-! the law's own text, by its place -/
def lawBody : List Stmt := match Challenge.pw_dn0052_01.main.body.getLast? with
  | some (.FunctionDef _ _ b _ _ _ _ _ _ _) => b
  | _ => []
def lawScope : Scope := match Challenge.pw_dn0052_01.main.body.getLast? with
  | some (.FunctionDef _ _ _ _ _ _ sc _ _ _) => sc
  | _ => { kind := .function, names := [], isGenerator := false, isCoroutine := false, more := [] }
def rowF (ns : List Int) : List P := (List.range (ns.length + 3)).map fun (k : Nat) => ((ns ++ [0, 0, 0]).getD k 0, (k : Int))
theorem rowF_length (ns : List Int) : (rowF ns).length = ns.length + 3 := by simp [rowF]
theorem rowF_get {ns : List Int} {k : Nat} (h : k < ns.length + 3) : (rowF ns).getD k (0, 0) = ((ns ++ [0, 0, 0]).getD k 0, (k : Int)) := by
  unfold rowF
  rw [List.getD_eq_getElem?_getD, List.getElem?_map, List.getElem?_range h]
  rfl
theorem rowF_inj (ns : List Int) : Inj (rowF ns) := by
  intro a b ha hb e
  rw [rowF_length] at ha hb
  rw [rowF_get ha, rowF_get hb] at e
  have := (Prod.mk.inj e).2
  omega
/-- no pair -/
def NoPair (q : Addr × Obj) : Prop := ∀ p t1 t2 n, q.2 ≠ pairObj p t1 t2 n
theorem Pairs.strip {news : List (Addr × Obj)} {q : Addr × Obj} {vs : List Value} {ps : List P} (x : Pairs (q :: news) vs ps) (hq : NoPair q) : Pairs news vs ps := by
  refine ⟨x.1, fun i v p a b => ?_⟩
  obtain ⟨ad, e, t1, t2, k, hm⟩ := x.2 i v p a b
  refine ⟨ad, e, t1, t2, k, ?_⟩
  rcases List.mem_cons.mp hm with h | h
  · exact absurd (congrArg Prod.snd h).symm (hq p t1 t2 k)
  · exact h
theorem np_list {a : Addr} {its : Array Value} {n : Nat} : NoPair (a, listOf its n) := by
  intro p t1 t2 k e
  injection e with e
  injection e with e
  exact absurd e (by decide)
theorem np_cell {a : Addr} {o : Obj} {v : Option Value} (h : o.data = .cell v) : NoPair (a, o) := by
  intro p t1 t2 k e
  dsimp only at e
  rw [e] at h
  cases h
theorem np_range {a : Addr} {x y z : Int} {t u v : Tok} : NoPair (a, rangeObj x y z t u v) := by
  intro p t1 t2 k e
  injection e with e
  injection e with e
  exact absurd e (by decide)
theorem np_tab {a : Addr} {ps : Array Value} : NoPair (a, tabObj ps) := by
  intro p t1 t2 k e
  cases e
theorem np_two {a r t : Addr} {n : Nat} : NoPair (a, tupObj [.ref r, .ref t] n) := by
  intro p t1 t2 k e
  cases e

/-- where the pairs lie -/
def PlB (lo hi r : Nat) (pl : List (Addr × Obj)) : Prop := ∀ p ∈ pl, (@LT.lt Nat _ lo p.1) ∧ (@LT.lt Nat _ p.1 hi) ∧ (@Ne Nat p.1 r)
theorem PlB.off {lo hi r d : Nat} {pl : List (Addr × Obj)} (h : PlB lo hi r pl) (hd : d ≤ lo ∨ hi ≤ d ∨ d = r) : ∀ p ∈ pl, p.1 ≠ d := by
  intro p hp e
  have := h p hp
  have e' : @Eq Nat p.1 d := e
  omega
theorem setN_c {a d : Addr} {o o' : Obj} {r r' : List (Addr × Obj)} (h : @Ne Nat a d) (e : setN r d o' = r') : setN ((a, o) :: r) d o' = (a, o) :: r' := by
  rw [setN_cons h, e]
theorem news_eq {h₀ h : Heap} {L : Addr} {l l' : List (Addr × Obj)} (N : News h₀ L h l) (e : l = l') : News h₀ L h l' := e ▸ N
theorem sub_in3 {a b c d : Addr × Obj} {r : List (Addr × Obj)} : ∀ p ∈ b :: c :: d :: a :: r, p ∈ a :: b :: c :: d :: r := by
  intro p hp
  simp only [List.mem_cons] at hp ⊢
  rcases hp with h | h | h | h | h
  · exact .inr (.inl h)
  · exact .inr (.inr (.inl h))
  · exact .inr (.inr (.inr (.inl h)))
  · exact .inl h
  · exact .inr (.inr (.inr (.inr h)))
theorem rowF_take {ns : List Int} {i : Nat} (h : i < ns.length + 3) : (rowF ns).take (i + 1) = (rowF ns).take i ++ [((ns ++ [0, 0, 0]).getD i 0, (i : Int))] := by
  rw [List.take_add_one]
  congr 1
  have h1 : i < (rowF ns).length := by rw [rowF_length]; exact h
  have h2 : (rowF ns)[i]? = some (rowF ns)[i] := by simp [h1]
  have h3 := rowF_get h
  rw [List.getD_eq_getElem?_getD, h2] at h3
  rw [h2, ← h3]
  rfl
theorem sizeAB {a n : Nat} {b : Int} (hb : b = ((a + n : Nat) : Int)) : Builtin.Range.rangeSize a b 1 = n := by
  subst hb
  unfold Builtin.Range.rangeSize
  simp
  omega
theorem news_re {h₀ h : Heap} {L d : Addr} {l l' : List (Addr × Obj)} {o o' : Obj} (N : News h₀ L h (setN l d o')) (hm : (d, o) ∈ l) (H : ∀ p ∈ l', p = (d, o') ∨ (p ∈ l ∧ (@Ne Nat p.1 d))) : News h₀ L h l' := by
  intro p hp
  rcases H p hp with e | ⟨h1, h2⟩
  · rw [e]; exact N _ (mem_setN_self hm)
  · exact N _ (mem_setN_ne h1 h2)
theorem news_swap {h₀ h : Heap} {L : Addr} {a : Addr × Obj} {b c pl : List (Addr × Obj)} (N : News h₀ L h (a :: (pl ++ b))) (hc : ∀ p ∈ c, p ∈ b) : News h₀ L h (a :: (c ++ pl)) := by
  intro p hp
  rcases List.mem_cons.mp hp with rfl | hp
  · exact N _ (.head _)
  · rcases List.mem_append.mp hp with hp | hp
    · exact N _ (.tail _ (List.mem_append_right _ (hc p hp)))
    · exact N _ (.tail _ (List.mem_append_left _ hp))
/-- not one of the law's cells, nor its table -/
def Fresh (L d : Nat) : Prop := (@Ne Nat d (L + 1)) ∧ (@Ne Nat d (L + 1 + 1)) ∧ (@Ne Nat d (L + 1 + 1 + 1)) ∧ (@Ne Nat d (L + 1 + 1 + 1 + 1)) ∧ (@Ne Nat d (L + 1 + 1 + 1 + 1 + 1)) ∧ (@Ne Nat d (L + 1 + 1 + 1 + 1 + 1 + 1)) ∧ (@Ne Nat d 70)
/-- what lies in the law's ledger -/
structure LawB (L sc rowA rg : Addr) (rz : Nat) (its : List Value) (n0 : Nat) (pl : List (Addr × Obj)) (vH vD vN : Option Value) (tb : Array Value) (B : List (Addr × Obj)) : Prop where
  row : (rowA, listOf its.toArray n0) ∈ B
  rng : ∃ t u v, (rg, rangeObj 0 (rz : Int) 1 t u v) ∈ B
  pls : ∀ p ∈ pl, p ∈ B
  c1 : ∃ o, (L + 1, o) ∈ B ∧ o.data = .cell (some (.ref sc))
  c3 : ∃ o, (L + 1 + 1 + 1, o) ∈ B ∧ o.data = .cell (some (.ref rowA))
  c4 : ∃ o, (L + 1 + 1 + 1 + 1, o) ∈ B ∧ o.data = .cell vH
  c5 : ∃ o, (L + 1 + 1 + 1 + 1 + 1, o) ∈ B ∧ o.data = .cell vD
  c6 : ∃ o, (L + 1 + 1 + 1 + 1 + 1 + 1, o) ∈ B ∧ o.data = .cell vN
  tab : (70, tabObj tb) ∈ B
  fr : Fresh L rowA
  fg : Fresh L rg
  plb : ∃ hi, PlB (L + 1 + 1 + 1 + 1 + 1 + 1) hi rowA pl
  h70 : @LT.lt Nat _ 70 L
  np : ∀ q ∈ B, q ∈ pl ∨ NoPair q
section
variable {L sc rowA rg : Addr} {rz : Nat} {its : List Value} {n0 : Nat} {pl : List (Addr × Obj)} {vH vD vN : Option Value} {tb : Array Value} {B : List (Addr × Obj)}
theorem LawB.more (x : LawB L sc rowA rg rz its n0 pl vH vD vN tb B) (B' : List (Addr × Obj)) (hs : ∀ p ∈ B, p ∈ B') (hn : ∀ q ∈ B', q ∈ pl ∨ NoPair q) : LawB L sc rowA rg rz its n0 pl vH vD vN tb B' :=
  ⟨hs _ x.row, let ⟨t, u, v, h⟩ := x.rng; ⟨t, u, v, hs _ h⟩, fun p hp => hs _ (x.pls p hp), let ⟨o, a, b⟩ := x.c1; ⟨o, hs _ a, b⟩, let ⟨o, a, b⟩ := x.c3; ⟨o, hs _ a, b⟩, let ⟨o, a, b⟩ := x.c4; ⟨o, hs _ a, b⟩,
    let ⟨o, a, b⟩ := x.c5; ⟨o, hs _ a, b⟩, let ⟨o, a, b⟩ := x.c6; ⟨o, hs _ a, b⟩, hs _ x.tab, x.fr, x.fg, x.plb, x.h70, hn⟩
theorem setN_np {d : Addr} {o' : Obj} (hn : ∀ q ∈ B, q ∈ pl ∨ NoPair q) (h' : NoPair (d, o')) : ∀ q ∈ setN B d o', q ∈ pl ∨ NoPair q := by
  intro q hq
  rcases mem_setN hq with ⟨rfl, _⟩ | ⟨h, _⟩
  · exact .inr h'
  · exact hn q h
theorem LawB.set4 (x : LawB L sc rowA rg rz its n0 pl vH vD vN tb B) {o' : Obj} {v : Option Value} (hd : o'.data = .cell v) : LawB L sc rowA rg rz its n0 pl v vD vN tb (setN B (L + 1 + 1 + 1 + 1) o') := by
  obtain ⟨f1, f2, f3, f4, f5, f6, f7⟩ := x.fr
  obtain ⟨g1, g2, g3, g4, g5, g6, g7⟩ := x.fg
  have h70 := x.h70
  obtain ⟨hi, hp⟩ := x.plb
  exact ⟨mem_setN_ne x.row f4, let ⟨t, u, v, h⟩ := x.rng; ⟨t, u, v, mem_setN_ne h g4⟩, fun p hq => mem_setN_ne (x.pls p hq) (hp.off (.inl (by omega)) p hq),
    let ⟨o, a, b⟩ := x.c1; ⟨o, mem_setN_ne a (neN (by dsimp only; omega)), b⟩, let ⟨o, a, b⟩ := x.c3; ⟨o, mem_setN_ne a (neN (by dsimp only; omega)), b⟩, let ⟨o, a, b⟩ := x.c4; ⟨o', mem_setN_self a, hd⟩,
    let ⟨o, a, b⟩ := x.c5; ⟨o, mem_setN_ne a (neN (by dsimp only; omega)), b⟩, let ⟨o, a, b⟩ := x.c6; ⟨o, mem_setN_ne a (neN (by dsimp only; omega)), b⟩, mem_setN_ne x.tab (neN (by dsimp only; omega)), x.fr, x.fg, x.plb, x.h70, setN_np x.np (np_cell hd)⟩
theorem LawB.set5 (x : LawB L sc rowA rg rz its n0 pl vH vD vN tb B) {o' : Obj} {v : Option Value} (hd : o'.data = .cell v) : LawB L sc rowA rg rz its n0 pl vH v vN tb (setN B (L + 1 + 1 + 1 + 1 + 1) o') := by
  obtain ⟨f1, f2, f3, f4, f5, f6, f7⟩ := x.fr
  obtain ⟨g1, g2, g3, g4, g5, g6, g7⟩ := x.fg
  have h70 := x.h70
  obtain ⟨hi, hp⟩ := x.plb
  exact ⟨mem_setN_ne x.row f5, let ⟨t, u, v, h⟩ := x.rng; ⟨t, u, v, mem_setN_ne h g5⟩, fun p hq => mem_setN_ne (x.pls p hq) (hp.off (.inl (by omega)) p hq),
    let ⟨o, a, b⟩ := x.c1; ⟨o, mem_setN_ne a (neN (by dsimp only; omega)), b⟩, let ⟨o, a, b⟩ := x.c3; ⟨o, mem_setN_ne a (neN (by dsimp only; omega)), b⟩, let ⟨o, a, b⟩ := x.c4; ⟨o, mem_setN_ne a (neN (by dsimp only; omega)), b⟩,
    let ⟨o, a, b⟩ := x.c5; ⟨o', mem_setN_self a, hd⟩, let ⟨o, a, b⟩ := x.c6; ⟨o, mem_setN_ne a (neN (by dsimp only; omega)), b⟩, mem_setN_ne x.tab (neN (by dsimp only; omega)), x.fr, x.fg, x.plb, x.h70, setN_np x.np (np_cell hd)⟩
theorem LawB.set6 (x : LawB L sc rowA rg rz its n0 pl vH vD vN tb B) {o' : Obj} {v : Option Value} (hd : o'.data = .cell v) : LawB L sc rowA rg rz its n0 pl vH vD v tb (setN B (L + 1 + 1 + 1 + 1 + 1 + 1) o') := by
  obtain ⟨f1, f2, f3, f4, f5, f6, f7⟩ := x.fr
  obtain ⟨g1, g2, g3, g4, g5, g6, g7⟩ := x.fg
  have h70 := x.h70
  obtain ⟨hi, hp⟩ := x.plb
  exact ⟨mem_setN_ne x.row f6, let ⟨t, u, v, h⟩ := x.rng; ⟨t, u, v, mem_setN_ne h g6⟩, fun p hq => mem_setN_ne (x.pls p hq) (hp.off (.inl (by omega)) p hq),
    let ⟨o, a, b⟩ := x.c1; ⟨o, mem_setN_ne a (neN (by dsimp only; omega)), b⟩, let ⟨o, a, b⟩ := x.c3; ⟨o, mem_setN_ne a (neN (by dsimp only; omega)), b⟩, let ⟨o, a, b⟩ := x.c4; ⟨o, mem_setN_ne a (neN (by dsimp only; omega)), b⟩,
    let ⟨o, a, b⟩ := x.c5; ⟨o, mem_setN_ne a (neN (by dsimp only; omega)), b⟩, let ⟨o, a, b⟩ := x.c6; ⟨o', mem_setN_self a, hd⟩, mem_setN_ne x.tab (neN (by dsimp only; omega)), x.fr, x.fg, x.plb, x.h70, setN_np x.np (np_cell hd)⟩
theorem Pairs.onto {B : List (Addr × Obj)} {vs : List Value} {ps : List P} (x : Pairs B vs ps) (hn : ∀ q ∈ B, q ∈ pl ∨ NoPair q) : Pairs pl vs ps := by
  refine ⟨x.1, fun i v p a b => ?_⟩
  obtain ⟨ad, e, t1, t2, k, hm⟩ := x.2 i v p a b
  rcases hn _ hm with h | h
  · exact ⟨ad, e, t1, t2, k, h⟩
  · exact absurd rfl (h p t1 t2 k)
theorem np_cons {q : Addr × Obj} (hn : ∀ q ∈ B, q ∈ pl ∨ NoPair q) (h : NoPair q) : ∀ p ∈ q :: B, p ∈ pl ∨ NoPair p :=
  List.forall_mem_cons.mpr ⟨.inr h, hn⟩
end
theorem size11 {n : Nat} (h1 : 1 ≤ n) : Builtin.Range.rangeSize 1 n 1 = ((n - 1 : Nat) : Int) := by
  unfold Builtin.Range.rangeSize
  simp
  omega
theorem small11 {n : Nat} (h1 : 1 ≤ n) (hn : n < 1000) : Builtin.Range.small 1 n 1 = true := by
  unfold Builtin.Range.small
  rw [size11 h1]
  unfold Builtin.Range.rangeFitsLong
  simp
  omega

section
variable {prog : Program} {w : World} {A : Around} {E : Value → Shared → Prop} {s : Shared} {h₀ : Heap} {L D : Addr} {m : Str → Option Value} {news : List (Addr × Obj)} {vs : List Value} {ns : List Int} {n : Nat}
theorem sum_l {Q : Value → Shared → Prop} (hh : A.handled = none) (F : Fr h₀ L s.heap m) (N : News h₀ L s.heap news) (hm : (D, listOf vs.toArray n) ∈ news) (hI : IntsAre vs ns)
    (h : ∀ s' t', rst s' = rst s → Fr h₀ L s'.heap m → News h₀ L s'.heap news → Q (.int ns.sum t') s') : wpAny (model prog w) A (call (.builtin "sum") [.ref D]) Q E s :=
  sumK hh F N ⟨_, (N _ hm).1, rfl, n, rfl⟩ hI fun h' tk t' F' N' => h _ t' rfl F' N'
theorem slice_from {value slice : Expr} {t : Tok} {Q : Value → Shared → Prop} {b : Nat} (F : Fr h₀ L s.heap m) (N : News h₀ L s.heap news) (hl : h₀.IsList D vs.toArray) (hz : vs.length < 1000)
    (h : ∀ D' s', rst s' = rst s → Fr h₀ L s'.heap m → News h₀ L s'.heap ((D', listOf (vs.drop b).toArray 0) :: news) → (∀ p ∈ news, p.1 < D') → Q (.ref D') s')
    (hs : subscripted slice false (.ref D) (.ref s.heap.objs.size) = operate [.ref s.heap.objs.size, .ref D] (getItem (.ref D) (.ref s.heap.objs.size)) := by with_unfolding_all rfl) (ht : ∀ r, letTemporaryGo value (.ref D) r = pure () := by intro _; with_unfolding_all rfl) :
    wpAny (model prog w) A (subscriptTail value slice (.ref D) (.ref s.heap.objs.size)) Q E { s with heap := s.heap.push { cls := .type "slice", data := .fields #[.int (b : Int) t, .none, .none] } } := by
  refine kmk_slice_lit (its := vs.toArray) (zs := vs.drop b) F N (let ⟨o, ho, r⟩ := hl; ⟨o, F.keep _ _ ho, r⟩) (IsPart.int _ _) IsPart.none ?_ (fun D' h' F' N' l => h D' _ rfl F' N' l) hs ht (by rw [sizeLine_eq]; simp; omega)
  rw [slicePick_from']
theorem div3 {hh : Heap} {gg : Array GenState} {dd : Drawn} {kk : Nat} {oo : OsState} {t u : Tok} {Q : Value → Shared → Prop} {x : Int} (h : ∀ t tk, Q (.int (Int.fdiv x 3) t) ⟨hh, gg, dd, tk, oo⟩) : wpAny (model prog w) A (binaryOp .FloorDiv (.int x t) (.int 3 u)) Q E ⟨hh, gg, dd, kk, oo⟩ :=
  floordiv_int (by decide) (h _ _)
theorem mod_n {hh : Heap} {gg : Array GenState} {dd : Drawn} {kk : Nat} {oo : OsState} {t u : Tok} {Q : Value → Shared → Prop} {x : Int} {y : Nat} (hy : 0 < y) (h : ∀ z t tk, z < y → Q (.int ((z : Nat) : Int) t) ⟨hh, gg, dd, tk, oo⟩) : wpAny (model prog w) A (binaryOp .Mod (.int x t) (.int (y : Int) u)) Q E ⟨hh, gg, dd, kk, oo⟩ := by
  refine mod_int' (by omega) ?_
  have e : x.fmod (y : Int) = (((x % (y : Int)).toNat : Nat) : Int) := by
    rw [Int.fmod_eq_emod_of_nonneg x (by omega)]
    have := Int.emod_nonneg x (show (y : Int) ≠ 0 by omega)
    omega
  rw [e]
  have h2 := Int.emod_lt_of_pos x (show (0 : Int) < y by omega)
  have h3 := Int.emod_nonneg x (show (y : Int) ≠ 0 by omega)
  exact h _ _ _ (by omega)
end

local macro_rules | `(tactic| walk_at "mine mem") => `(tactic| first | with_reducible assumption | ((with_reducible show _ ∈ _ :: _); first | exact List.mem_cons_self | (refine List.mem_cons_of_mem _ ?_; walk_at "mine mem")) | ((with_reducible show _ ∈ setN _ _ _); refine' mem_setN_self (o := ?mo) ?mm; (case mm => walk_at "mine mem")))
local macro_rules | `(tactic| walk_at "mine idx") => `(tactic| ((try simp only [List.length_set, List.length_map, List.length_range, List.length_cons, List.length_nil, List.length_append]); omega))
local macro_rules | `(tactic| walk_at "mine pair") => `(tactic| first | with_reducible assumption | exact PairAt.set (by with_reducible assumption) (by with_reducible assumption) (by with_reducible assumption))
local macro_rules | `(tactic| walk_at "mine sub pair") => `(tactic| (k_here; (with_reducible show wpAny _ _ (subscriptTail _ _ (Value.ref _) (Value.int _ _)) _ _ _); k_dflt (refine' get_pair ?k1 ?k2 ?k3 ?k4 ?k5 ?k6 ?_ ?k7 ?k8; (case k1 => k_asm); (case k2 => walk_at "mine mem"); (case k3 => with_reducible assumption); (case k4 => omega); (case k5 => walk_at "mine idx"); (case k6 => walk_at "mine idx"); (case k7 => with_unfolding_all rfl); (case k8 => intro _; with_unfolding_all rfl); k_whole); intro a' e' p'))
local macro_rules | `(tactic| walk_at "mine sub nat") => `(tactic| (k_here; (with_reducible show wpAny _ _ (subscriptTail _ _ (Value.ref _) (Value.int _ _)) _ _ _); k_dflt (refine' get_nat ?k1 ?k2 ?k3 ?k4 ?k5 ?k6 ?_ ?k7 ?k8; (case k1 => k_asm); (case k2 => walk_at "mine mem"); (case k3 => with_reducible assumption); (case k4 => omega); (case k5 => walk_at "mine idx"); (case k6 => walk_at "mine idx"); (case k7 => with_unfolding_all rfl); (case k8 => intro _; with_unfolding_all rfl); k_whole); intro t'; try simp only [Int.toNat_natCast]))
local macro_rules | `(tactic| walk_at "subscriptTail") => `(tactic| walk_at "mine sub pair")
local macro_rules | `(tactic| walk_at "subscriptTail") => `(tactic| walk_at "mine sub nat")
local macro_rules | `(tactic| walk_at "subscriptTail Name Name ref int") => `(tactic| walk_at "mine sub pair")
local macro_rules | `(tactic| walk_at "subscriptTail Name Name ref int") => `(tactic| walk_at "mine sub nat")
local macro_rules | `(tactic| walk_at "subscriptTail Name Constant ref int") => `(tactic| walk_at "mine sub pair")
local macro_rules | `(tactic| walk_at "subscriptTail Name Constant ref int") => `(tactic| walk_at "mine sub nat")
local macro_rules | `(tactic| walk_at "subscriptTail Name BinOp ref int") => `(tactic| walk_at "mine sub pair")
local macro_rules | `(tactic| walk_at "subscriptTail Name BinOp ref int") => `(tactic| walk_at "mine sub nat")
local macro_rules | `(tactic| walk_at "subscriptTail Name Subscript ref int") => `(tactic| walk_at "mine sub pair")
local macro_rules | `(tactic| walk_at "subscriptTail Name Subscript ref int") => `(tactic| walk_at "mine sub nat")
local macro_rules | `(tactic| walk_at "subscriptTail Call") => `(tactic| (k_here; (with_reducible show wpAny _ _ (subscriptTail _ _ (Value.ref _) (Value.int _ _)) _ _ _); k_dflt (refine' get_nat_t ?k1 ?k2 ?k3 ?k4 ?k5 ?k6 ?_ ?k7; (case k1 => k_asm); (case k2 => walk_at "mine mem"); (case k3 => with_reducible assumption); (case k4 => omega); (case k5 => walk_at "mine idx"); (case k6 => walk_at "mine idx"); (case k7 => with_unfolding_all rfl); k_whole); intro t'; try simp only [Int.toNat_natCast]))
local macro_rules | `(tactic| walk_at "compareOp Lt ref ref") => `(tactic| (k_here; k_dflt (refine' Mine.lt_at ?k1 ?k2 ?k3 ?k4 ?_; (case k1 => k_asm); (case k2 => walk_at "mine pair"); (case k3 => walk_at "mine pair"); (case k4 => have hu' := Cx.units (by assumption); omega); k_whole)))
local macro_rules | `(tactic| walk_at "setItem ref int ref") => `(tactic| (k_here; k_dflt (refine' Mine.set_item ?k1 ?k2 ?k3 ?k4 ?k5 ?k6 ?_; (case k1 => k_asm); (case k2 => k_asm); (case k3 => walk_at "mine mem"); (case k4 => omega); (case k5 => walk_at "mine idx"); (case k6 => walk_at "mine idx"); k_whole); intro s' r' F' N'; (try simp only [setN_setN] at N'); (try k_sweep)))
local macro_rules | `(tactic| walk_at "storeName") => `(tactic| (k_here; k_dflt (refine' Mine.store_l ?k1 ?k2 ?_ ?a ?b; (case k1 => k_asm); (case k2 => k_asm); (case a => rfl); (case b => rfl); k_whole); intro s' r' F' N'; (try k_sweep)))
local macro_rules | `(tactic| walk_at "storeName") => `(tactic| (k_here; k_dflt (refine' Mine.store_c ?k1 ?k2 ?k3 ?k4 ?k5 ?_ ?a ?b; (case a => rfl); (case b => rfl); (case k1 => k_asm); (case k2 => k_asm); (case k3 => rfl); (case k4 => walk_at "mine mem"); (case k5 => with_reducible assumption); k_whole); intro s' o' r' F' N' d'; (try k_sweep)))
local macro_rules | `(tactic| walk_at "eval Name") => `(tactic| (k_here; k_dflt (refine' nameX_C ?N ?c ?m ?d ?_ ?a ?b; (case a => rfl); (case b => rfl); (case N => k_asm); (case c => rfl); (case m => walk_at "mine mem"); (case d => with_reducible assumption); k_whole)))
local macro_rules | `(tactic| walk_at "eval Name") => `(tactic| (k_here; (with_reducible show wpAny _ _ (eval (Expr.Name _ _) (compEnvC _ _ _ _)) _ _ _); k_dflt (refine' lcf_cell ?N ?c ?m ?d ?_ ?a ?b; (case a => rfl); (case b => rfl); (case N => k_asm); (case c => rfl); (case m => walk_at "mine mem"); (case d => with_reducible assumption); k_whole)))
local macro_rules | `(tactic| walk_at "eval Name") => `(tactic| (k_here; k_dflt (first
  | (refine' nameX_L ?F ?v ?_ ?a ?b; (case a => rfl); (case b => rfl); (case F => k_asm); (case v => rfl); k_whole)
  | (refine' nameX_K ?F ?X ?T ?e ?_ ?a ?b; (case a => rfl); (case b => rfl); (case F => k_asm); (case X => k_asm); (case T => k_asm); (case e => k_is); k_whole)
  | (refine' nameX_B ?F ?X ?T ?e ?v ?n ?_ ?a ?b; (case a => rfl); (case b => rfl); (case F => k_asm); (case X => k_asm); (case T => k_asm); (case e => k_is); (case v => boot_fast); (case n => decide); k_whole))))
local macro_rules | `(tactic| walk_at "eval Name") => `(tactic| (k_here; k_dflt (refine' nameX_F ?N ?c ?m ?d ?_ ?a ?b; (case a => rfl); (case b => rfl); (case N => k_asm); (case c => rfl); (case m => walk_at "mine mem"); (case d => with_reducible assumption); k_whole)))
local macro_rules | `(tactic| walk_at "compareOp NotEq ref ref") => `(tactic| (k_here; k_dflt (refine' Mine.ne_at ?k1 ?k2 ?k3 ?k4 ?_; (case k1 => k_asm); (case k2 => walk_at "mine pair"); (case k3 => walk_at "mine pair"); (case k4 => have hu' := Cx.units (by assumption); omega); k_whole)))
local macro_rules | `(tactic| walk_at "call builtin:list.index") => `(tactic| (k_here; k_dflt (refine' Mine.index_l ?k1 ?k2 ?k3 ?k4 ?k5 ?k6 ?k7 ?_; (case k1 => k_asm); (case k2 => walk_at "mine mem"); (case k3 => with_reducible assumption); (case k4 => walk_at "mine pair"); (case k5 => with_reducible assumption); (case k6 => walk_at "mine idx"); (case k7 => have hu' := Cx.units (by assumption); omega); k_whole); intro t' tk'))
local macro_rules | `(tactic| walk_at "binaryOp RShift int int") => `(tactic| (refine Mine.rshift1 ?_; intro t' tk'))
local macro_rules | `(tactic| walk_at "binaryOp Sub int int") => `(tactic| (refine Mine.sub_i ?_; intro t' tk'))
local macro_rules | `(tactic| walk_at "binaryOp Add int int") => `(tactic| (refine Mine.add_i ?_; intro t' tk'))
local macro_rules | `(tactic| walk_at "inplaceOp Add int int") => `(tactic| (refine Mine.iadd_i ?_; intro t' tk'))
local macro_rules | `(tactic| walk_at "eval Constant int") => `(tactic| (refine Mine.const_i ?_; intro t' tk'))
local macro_rules | `(tactic| walk_at "binaryOp Mult int int") => `(tactic| (refine Mine.mul_i ?_; intro t' tk'))
local macro_rules | `(tactic| walk_at "binaryOp FloorDiv int int") => `(tactic| (first | (refine' Mine.half_n ?k0 ?_; (case k0 => omega)) | (refine' Mine.half ?k1 ?k2 ?_; (case k1 => omega); (case k2 => omega))); intro t' tk')
local macro_rules | `(tactic| walk_at "call builtin:len") => `(tactic| (k_here; k_dflt (refine' Mine.len_l ?k1 ?k2 ?k3 ?k4 ?_; (case k1 => k_asm); (case k2 => walk_at "mine mem"); (case k3 => first | with_reducible assumption | exact Pairs.len (by with_reducible assumption) | exact Nats.len (by with_reducible assumption)); (case k4 => walk_at "mine idx"); k_whole); intro t' tk'))
local macro_rules | `(tactic| walk_at "call type:range") => `(tactic| (k_here; k_dflt (first | (refine' Mine.range_l ?k1 ?k2 ?_; (case k1 => k_asm); (case k2 => k_asm)) | (refine' Mine.range2_l ?k1 ?k2 ?_; (case k1 => k_asm); (case k2 => k_asm))); k_whole; intro r' s' t' u' v' r1' F' N' l'; (try k_sweep)))
local macro_rules | `(tactic| walk_at "call type:reversed") => `(tactic| (k_here; k_dflt (refine' Mine.reversed_l ?k1 ?k2 ?k3 ?k4 ?_; (case k1 => k_asm); (case k2 => k_asm); (case k3 => walk_at "mine mem"); (case k4 => omega)); k_whole; intro r' s' r1' F' N' l'; (try k_sweep)))
local macro_rules | `(tactic| walk_at "newList") => `(tactic| (k_here; k_dflt (refine' Mine.new_l ?k1 ?k2 ?k3 ?_; (case k1 => k_asm); (case k2 => k_asm); (case k3 => simp only [List.length_cons, List.length_nil]; omega)); k_whole; intro b' s' r1' F' N' l'; (try k_sweep)))
local macro_rules | `(tactic| walk_at "newTuple") => `(tactic| (k_here; k_dflt (refine' Mine.new_t ?k1 ?k2 ?k3 ?_; (case k1 => k_asm); (case k2 => k_asm); (case k3 => simp only [List.length_cons, List.length_nil]; omega)); k_whole; intro b' s' r1' F' N' l'; (try k_sweep)))
local macro_rules | `(tactic| walk_at "call type:list") => `(tactic| (k_here; (with_reducible show wpAny _ _ (call (Value.type _) [Value.ref _]) _ _ _); k_dflt (refine' Mine.copy_l ?k1 ?k2 ?k3 ?k4 ?_; (case k1 => k_asm); (case k2 => k_asm); (case k3 => walk_at "mine mem"); (case k4 => omega)); k_whole; intro b' s' n' r1' F' N' l'; (try k_sweep)))
local macro_rules | `(tactic| walk_at "call builtin:list.extend") => `(tactic| (k_here; k_dflt (refine' Mine.extend_l ?k1 ?k2 ?k3 ?k4 ?k5 ?k6 ?_; (case k1 => k_asm); (case k2 => k_asm); (case k3 => walk_at "mine mem"); (case k4 => walk_at "mine mem"); (case k5 => omega); (case k6 => omega)); k_whole; intro s' n' r1' F' N'; (try k_sweep)))
local macro_rules | `(tactic| walk_at "call builtin:list.append") => `(tactic| (k_here; k_dflt (refine' Mine.append_l ?k1 ?k2 ?k3 ?k4 ?_; (case k1 => k_asm); (case k2 => k_asm); (case k3 => walk_at "mine mem"); (case k4 => omega)); k_whole; intro s' n' r1' F' N'; (try k_sweep)))
local macro_rules | `(tactic| walk_at "call builtin:list.reverse") => `(tactic| (k_here; k_dflt (refine' Mine.reverse_l ?k1 ?k2 ?k3 ?k4 ?_; (case k1 => k_asm); (case k2 => k_asm); (case k3 => walk_at "mine mem"); (case k4 => omega)); k_whole; intro s' n' r1' F' N'; (try k_sweep)))
local macro_rules | `(tactic| walk_at "getMethod ref") => `(tactic| (k_here; k_dflt (first
  | ((with_reducible show wpAny _ _ (getMethod (Value.ref _) (PySem.Str.ofString "extend") _) _ _ _); refine' Mine.meth_l ?k1 ?k2 PySem.F.slot_list_extend PySem.F.type_list_extend ?_; (case k1 => k_asm); (case k2 => walk_at "mine mem"))
  | ((with_reducible show wpAny _ _ (getMethod (Value.ref _) (PySem.Str.ofString "append") _) _ _ _); refine' Mine.meth_l ?k1 ?k2 PySem.F.slot_list_append PySem.F.type_list_append ?_; (case k1 => k_asm); (case k2 => walk_at "mine mem"))
  | ((with_reducible show wpAny _ _ (getMethod (Value.ref _) (PySem.Str.ofString "reverse") _) _ _ _); refine' Mine.meth_l ?k1 ?k2 PySem.F.slot_list_reverse PySem.F.type_list_reverse ?_; (case k1 => k_asm); (case k2 => walk_at "mine mem"))
  | ((with_reducible show wpAny _ _ (getMethod (Value.ref _) (PySem.Str.ofString "index") _) _ _ _); refine' Mine.meth_l ?k1 ?k2 PySem.F.slot_list_index PySem.F.type_list_index ?_; (case k1 => k_asm); (case k2 => walk_at "mine mem")))))
local macro_rules | `(tactic| walk_at "call builtin:iter") => `(tactic| (k_here; (with_reducible show wpAny _ _ (call (Value.builtin "iter") [Value.ref _]) _ _ _); k_dflt (refine' Mine.iter_call ?k1 ?k2 ?k3 ?k4 ?_; (case k1 => k_asm); (case k2 => k_asm); (case k3 => walk_at "mine mem"); (case k4 => omega)); k_whole; intro r' s' r1' F' N' l'; (try k_sweep)))
local macro_rules | `(tactic| walk_at "compareOp Is ref ref") => `(tactic| (k_here; (with_reducible show wpAny _ _ (compareOp CmpOp.Is (Value.ref _) (Value.ref _)) _ _ _); k_dflt (refine' Mine.is_l ?k1 ?k2 ?k3 ?k4 ?k5 ?_; (case k1 => k_asm); (case k2 => k_asm); (case k3 => walk_at "mine mem"); (case k4 => k_asm); (case k5 => k_is)); k_whole))
local macro_rules | `(tactic| walk_at "mine sub int") => `(tactic| (k_here; (with_reducible show wpAny _ _ (subscriptTail _ _ (Value.ref _) (Value.int _ _)) _ _ _); k_dflt (refine' Mine.get_int ?k1 ?k2 ?k3 ?k4 ?k5 ?k6 ?_ ?k7 ?k8; (case k1 => k_asm); (case k2 => walk_at "mine mem"); (case k3 => with_reducible assumption); (case k4 => omega); (case k5 => walk_at "mine idx"); (case k6 => walk_at "mine idx"); (case k7 => with_unfolding_all rfl); (case k8 => intro _; with_unfolding_all rfl); k_whole); intro t'; try simp only [Int.toNat_natCast]))
local macro_rules | `(tactic| walk_at "subscriptTail Name Name ref int") => `(tactic| walk_at "mine sub int")
local macro_rules | `(tactic| walk_at "binaryOp Add ref ref") => `(tactic| (k_here; k_dflt (refine' Mine.add_l ?k1 ?k2 ?k3 ?k4 ?k5 ?_; (case k1 => k_asm); (case k2 => k_asm); (case k3 => walk_at "mine mem"); (case k4 => walk_at "mine mem"); (case k5 => walk_at "mine idx")); k_whole; intro b' s' r1' F' N' l'; (try k_sweep)))
local macro_rules | `(tactic| walk_at "call type:list") => `(tactic| (k_here; (with_reducible show wpAny _ _ (call (Value.type _) [Value.ref _]) _ _ _); k_dflt (refine' Mine.copy_b ?k1 ?k2 ?k3 ?k4 ?_; (case k1 => k_asm); (case k2 => k_asm); (case k3 => with_reducible assumption); (case k4 => omega)); k_whole; intro b' s' n' r1' F' N' l'; (try k_sweep)))
local macro_rules | `(tactic| walk_at "mine ne") => `(tactic| (refine PySem.W.neN ?_; (try dsimp only); omega))
local macro_rules | `(tactic| walk_at "mine off") => `(tactic| first | exact List.forall_mem_nil _ | (refine' List.forall_mem_cons.mpr ⟨?a, ?b⟩; (case a => walk_at "mine ne"); (case b => walk_at "mine off")) | (refine' PlB.off ?a ?b; (case a => with_reducible assumption); (case b => omega)))
local macro_rules | `(tactic| walk_at "mine setN") => `(tactic| first | (refine' setN_c ?a ?b; (case a => omega); (case b => walk_at "mine setN")) | (refine' setN_head ?a; (case a => walk_at "mine off")))
local macro_rules | `(tactic| walk_at "mine sub") => `(tactic| first | exact List.forall_mem_nil _ | (refine' List.forall_mem_cons.mpr ⟨?a, ?b⟩; (case a => walk_at "mine mem"); (case b => walk_at "mine sub")) | (intro p' hp'; (repeat (first | exact hp' | refine List.mem_cons_of_mem _ ?_))))
local macro_rules | `(tactic| walk_at "mine re") => `(tactic| first | exact List.forall_mem_nil _ | (refine' List.forall_mem_cons.mpr ⟨?a, ?b⟩; (case a => first | exact Or.inl rfl | (refine' Or.inr ⟨?x, ?y⟩; (case x => walk_at "mine mem"); (case y => (try dsimp only); omega))); (case b => walk_at "mine re")) | (intro p' hp'; refine' Or.inr ⟨?x, ?y⟩; (case x => (repeat (first | exact hp' | refine List.mem_cons_of_mem _ ?_))); (case y => (refine' PlB.off ?z ?zz p' hp'; (case z => with_reducible assumption); (case zz => omega)))))
local macro_rules | `(tactic| walk_at "subscriptTail Name Slice ref ref") => `(tactic| (k_here; (with_reducible show wpAny _ _ (subscriptTail _ (PySem.Expr.Slice none (some _) none _) (Value.ref _) (Value.ref _)) _ _ _); k_dflt (first | (refine' Mine.slice_take 1 ?k1 ?k2 ?k3 ?k4 ?_ ?k5 ?k6; (case k1 => k_asm)) | (refine' Mine.slice_take 2 ?k1 ?k2 ?k3 ?k4 ?_ ?k5 ?k6; (case k1 => k_asm))); (case k2 => k_asm); (case k3 => walk_at "mine mem"); (case k4 => omega); (case k5 => with_unfolding_all rfl); (case k6 => intro _; with_unfolding_all rfl); intro b' s' r1' F' N' l'; (try k_sweep)))
local macro_rules | `(tactic| walk_at "subscriptTail Name Slice ref ref") => `(tactic| (k_here; (with_reducible show wpAny _ _ (subscriptTail _ (PySem.Expr.Slice (some _) none (some _) _) (Value.ref _) (Value.ref _)) _ _ _); k_dflt (refine' Mine.slice_back ?k1 ?k2 ?k3 ?k4 ?k7 ?_ ?k5 ?k6; (case k1 => k_asm)); (case k2 => k_asm); (case k3 => walk_at "mine mem"); (case k4 => with_reducible assumption); (case k7 => omega); (case k5 => with_unfolding_all rfl); (case k6 => intro _; with_unfolding_all rfl); intro b' s' r1' F' N' l'; (try k_sweep)))
local macro_rules | `(tactic| walk_at "subscriptTail Name Slice ref ref") => `(tactic| (k_here; (with_reducible show wpAny _ _ (subscriptTail _ (PySem.Expr.Slice (some _) none none _) (Value.ref _) (Value.ref _)) _ _ _); k_dflt (refine' Mine.slice_from ?k1 ?k2 ?k3 ?k4 ?_ ?k5 ?k6; (case k1 => k_asm)); (case k2 => k_asm); (case k3 => with_reducible assumption); (case k4 => omega); (case k5 => with_unfolding_all rfl); (case k6 => intro _; with_unfolding_all rfl); intro b' s' r1' F' N' l'; (try k_sweep)))
local macro_rules | `(tactic| walk_at "call builtin:sum") => `(tactic| (k_here; (with_reducible show wpAny _ _ (call (Value.builtin "sum") [Value.ref _]) _ _ _); k_dflt (refine' Mine.sum_l ?k0 ?k1 ?k2 ?k3 ?k4 ?_; (case k0 => exact Cx.hh (by with_reducible assumption)); (case k1 => k_asm); (case k2 => k_asm); (case k3 => walk_at "mine mem"); (case k4 => first | with_reducible assumption | exact IntsAre.drop (by with_reducible assumption) _)); k_whole; intro s' t' r1' F' N'; (try k_sweep)))
local macro_rules | `(tactic| walk_at "binaryOp FloorDiv int int") => `(tactic| (refine Mine.div3 ?_; intro t' tk'))
local macro_rules | `(tactic| walk_at "binaryOp Mod int int") => `(tactic| ((refine' Mine.mod_n ?k0 ?_; (case k0 => omega)); intro z' t' tk' hz'))
local macro_rules | `(tactic| walk_at "mine rst") => `(tactic| first | exact rfl | assumption | (refine Eq.trans (by assumption) ?_; walk_at "mine rst"))
local macro_rules | `(tactic| walk_at "mine go") => `(tactic| repeat' (first | (k_unfold; (try dsimp only [Mine.WPost, Mine.FPost])) | ((fail_if_success (with_reducible show wpAny _ _ (exec (Stmt.While _ _ _ _) _) _ _ _)); (fail_if_success (with_reducible show wpAny _ _ (compareOp CmpOp.NotEq (Value.ref _) (Value.ref _)) _ _ _)); (fail_if_success (with_reducible show wpAny _ _ (compareOp CmpOp.Eq (Value.ref _) (Value.ref _)) _ _ _)); (fail_if_success (with_reducible show wpAny _ _ (eval (Expr.Lambda _ _ _ _) _) _ _ _)); (fail_if_success (with_reducible show wpAny _ _ (call (Value.ref _) _ _) _ _ _)); (fail_if_success (with_reducible show wpAny _ _ (call (Value.builtin "sorted") _ _) _ _ _)); (fail_if_success (with_reducible show wpAny _ _ (pyIter _) _ _ _)); (fail_if_success (with_reducible show LCt.CompSrcT _ _ _ _ _ _ _ _ _ _ _ _ _ _ _)); (fail_if_success (with_reducible show LCg.CompSrc _ _ _ _ _ _ _ _ _ _ _ _ _ _)); (fail_if_success (with_reducible show wpAny _ _ (eval (Expr.ListComp _ _ _ _) _) _ _ _)); (fail_if_success (with_reducible show wpAny _ _ (exec (Stmt.Assign _ (Expr.ListComp _ _ _ _) _) _) _ _ _)); walk1) | (dsimp only [Mine.WPost, Mine.FPost])))
local macro_rules | `(tactic| walk_at "mine g1") => `(tactic| repeat' (first | (k_unfold; (try dsimp only [Mine.WPost, Mine.FPost])) | ((fail_if_success (with_reducible show wpAny _ _ (exec (Stmt.While _ _ _ _) _) _ _ _)); (fail_if_success (with_reducible show wpAny _ _ (compareOp CmpOp.NotEq (Value.ref _) (Value.ref _)) _ _ _)); (fail_if_success (with_reducible show wpAny _ _ (compareOp CmpOp.Eq (Value.ref _) (Value.ref _)) _ _ _)); (fail_if_success (with_reducible show wpAny _ _ (eval (Expr.Lambda _ _ _ _) _) _ _ _)); (fail_if_success (with_reducible show wpAny _ _ (call (Value.ref _) _ _) _ _ _)); (fail_if_success (with_reducible show wpAny _ _ (call (Value.builtin "sorted") _ _) _ _ _)); (fail_if_success (with_reducible show wpAny _ _ (pyIter _) _ _ _)); (fail_if_success (with_reducible show LCt.CompSrcT _ _ _ _ _ _ _ _ _ _ _ _ _ _ _)); (fail_if_success (with_reducible show LCg.CompSrc _ _ _ _ _ _ _ _ _ _ _ _ _ _)); (fail_if_success (with_reducible show wpAny _ _ (eval (Expr.ListComp _ _ _ _) _) _ _ _)); (fail_if_success (with_reducible show wpAny _ _ (exec (Stmt.Assign _ (Expr.ListComp _ _ _ _) _) _) _ _ _)); (fail_if_success (with_reducible show wpAny _ _ (execs _ _) _ _ _)); walk1) | (dsimp only [Mine.WPost, Mine.FPost])))
local macro_rules | `(tactic| walk_at "mine gs") => `(tactic| repeat' (first | (k_unfold; (try dsimp only [Mine.WPost, Mine.FPost])) | ((fail_if_success (with_reducible show wpAny _ _ (exec (Stmt.While _ _ _ _) _) _ _ _)); (fail_if_success (with_reducible show wpAny _ _ (compareOp CmpOp.NotEq (Value.ref _) (Value.ref _)) _ _ _)); (fail_if_success (with_reducible show wpAny _ _ (compareOp CmpOp.Eq (Value.ref _) (Value.ref _)) _ _ _)); (fail_if_success (with_reducible show wpAny _ _ (eval (Expr.Lambda _ _ _ _) _) _ _ _)); (fail_if_success (with_reducible show wpAny _ _ (call (Value.ref _) _ _) _ _ _)); (fail_if_success (with_reducible show wpAny _ _ (call (Value.builtin "sorted") _ _) _ _ _)); (fail_if_success (with_reducible show wpAny _ _ (pyIter _) _ _ _)); (fail_if_success (with_reducible show LCt.CompSrcT _ _ _ _ _ _ _ _ _ _ _ _ _ _ _)); (fail_if_success (with_reducible show LCg.CompSrc _ _ _ _ _ _ _ _ _ _ _ _ _ _)); (fail_if_success (with_reducible show wpAny _ _ (eval (Expr.ListComp _ _ _ _) _) _ _ _)); (fail_if_success (with_reducible show wpAny _ _ (exec (Stmt.Assign _ (Expr.ListComp _ _ _ _) _) _) _ _ _)); (fail_if_success (with_reducible show wpAny _ _ (storeName _ _ _) _ _ _)); walk1) | (dsimp only [Mine.WPost, Mine.FPost])))

theorem siftdown_call : ∀ {w : World} {A : Around} {E : Value → Shared → Prop} {s : Shared} {h₀ : Heap} {L hp : Addr} {k : Nat} {m : Str → Option Value} {news : List (Addr × Obj)} {Q : Value → Shared → Prop} {its : List Value} {ps : List P} {n a b : Nat} {ta tb : Tok}
    (C : Cx w A h₀ L (k + 1)) (F : Fr h₀ L s.heap m) (N : News h₀ L s.heap news) (hm : (hp, listOf its.toArray n) ∈ news) (hP : Pairs news its ps) (hb : b < ps.length) (hfit : ps.length < 1000)
    (hq : ∀ s' its', rst s' = rst s → Fr h₀ L s'.heap m → News h₀ L s'.heap (setN news hp (listOf its'.toArray n)) → Pairs news its' (sdF ps a b) → (∀ v ∈ its', v ∈ its) → Q .none s'),
    wpAny (model Challenge.rw_dn0052_01.row.prog w) A (call (.ref 35) [.ref hp, .int a ta, .int b tb]) Q E s := by
  intro w A E s h₀ L hp k m news Q its ps n a b ta tb C F N hm hP hb hfit hq
  have KX := C.X
  revert KX
  k_fill
  intro KX
  refine enter (binds := [(Str.ofString "heap", .ref hp), (Str.ofString "startpos", .int a ta), (Str.ofString "pos", .int b tb)]) C F N (by k_is) (by k_is) (BindsTo.of_eq rfl) (locs rfl) rfl rfl rfl (by decide) ?_
  clear F
  intro g L' s₁ Q' r₁ C' F' N' back
  have X' := C'.X
  obtain ⟨p, loose, mean, mg, mb, T'⟩ := C'.T
  simp only [pinL, List.reverse_cons, List.reverse_nil, List.nil_append, List.cons_append] at F'
  walk_at "mine go"
  rename PairAt _ _ _ => px
  rename (_ = some (Value.ref _)) => ex
  rename Fr _ _ _ _ => F₂
  rename News _ _ _ _ => N₂
  rename (rst _ = _) => r₂
  rename_i xa s₂
  simp only [Int.toNat_natCast] at px ex
  refine while_inv (n₀ := b) (fun c m₁ nx => ∃ its' ps', (∀ v ∈ its', v ∈ its) ∧ nx = setN news hp (listOf its'.toArray n) ∧ Pairs news its' ps' ∧ ps'.length = ps.length ∧ c < ps.length ∧ sd (ps.getD b (0, 0)) a ps' c = sdF ps a b ∧
    m₁ (Str.ofString "heap") = some (.ref hp) ∧ m₁ (Str.ofString "startpos") = some (.int a ta) ∧ (∃ t, m₁ (Str.ofString "pos") = some (.int (c : Int) t)) ∧ m₁ (Str.ofString "newitem") = some (.ref xa)) F₂ N₂ ?_ ?_
  · exact ⟨its, ps, fun _ h => h, (setN_same N hm).symm, hP, rfl, hb, rfl, rfl, rfl, ⟨tb, rfl⟩, rfl⟩
  rintro c m₁ nx s₃ r₃ F₃ N₃ ⟨its', ps', hsub, rfl, hP', hl', hc, hsd, e1, e2, ⟨t, e3⟩, e4⟩
  have F₄ := Fr.pins [(Str.ofString "heap", .ref hp), (Str.ofString "startpos", .int a ta), (Str.ofString "pos", .int (c : Int) t), (Str.ofString "newitem", .ref xa)] F₃ (by simp [e1, e2, e3, e4])
  dsimp only [pinL] at F₄
  have hlen' := hP'.1
  clear F₂ N₂ F₃
  walk_at "mine go"
  · rename PairAt _ _ _ => py
    rename (_ = some (Value.ref _)) => ey
    rename (_ < _) => hac
    rename (_ = true) => hlt
    rename Fr _ _ _ _ => FZ
    rename News _ _ _ _ => NZ
    refine ⟨_, _, (c - 1) / 2, by walk_at "mine rst", FZ, NZ, by omega, _, _, sub_set hsub (hsub _ (List.mem_of_getElem? ey)), rfl, Pairs.put hP' _ ⟨_, rfl, py⟩, by simp [hl'], by omega, ?_, rfl, rfl, ⟨_, congrArg (fun z => some (Value.int z _)) (show ((c : Int) - 1) / 2 = (((c - 1) / 2 : Nat) : Int) by omega)⟩, rfl⟩
    have e : (((c : Int) - 1) / 2).toNat = (c - 1) / 2 := by omega
    rw [e] at hlt ⊢
    conv => rhs; rw [← hsd, sd, if_pos (by omega), if_pos hlt]
    simp
  · rename (_ < _) => hac
    rename (_ = false) => hlt
    refine back _ _ _ _ (by assumption) (by assumption) fun F N => hq _ _ (by walk_at "mine rst") F N ?_ (sub_set hsub (List.mem_of_getElem? ex))
    have e : (((c : Int) - 1) / 2).toNat = (c - 1) / 2 := by omega
    rw [e] at hlt
    rw [← hsd, sd, if_pos (by omega), if_neg (by rw [hlt]; decide)]
    exact Pairs.put hP' _ ⟨_, rfl, px⟩
  · rename (¬ _) => hac
    refine back _ _ _ _ (by assumption) (by assumption) fun F N => hq _ _ (by walk_at "mine rst") F N ?_ (sub_set hsub (List.mem_of_getElem? ex))
    rw [← hsd, sd, if_neg (by omega)]
    exact Pairs.put hP' _ ⟨_, rfl, px⟩

theorem siftup_call : ∀ {w : World} {A : Around} {E : Value → Shared → Prop} {s : Shared} {h₀ : Heap} {L hp : Addr} {k : Nat} {m : Str → Option Value} {news : List (Addr × Obj)} {Q : Value → Shared → Prop} {its : List Value} {ps : List P} {n b : Nat} {tb : Tok}
    (C : Cx w A h₀ L (k + 1 + 1)) (F : Fr h₀ L s.heap m) (N : News h₀ L s.heap news) (hm : (hp, listOf its.toArray n) ∈ news) (hP : Pairs news its ps) (hb : b < ps.length) (hfit : ps.length < 1000)
    (hq : ∀ s' its', rst s' = rst s → Fr h₀ L s'.heap m → News h₀ L s'.heap (setN news hp (listOf its'.toArray n)) → Pairs news its' (suF ps b) → (∀ v ∈ its', v ∈ its) → Q .none s'),
    wpAny (model Challenge.rw_dn0052_01.row.prog w) A (call (.ref 42) [.ref hp, .int b tb]) Q E s := by
  intro w A E s h₀ L hp k m news Q its ps n b tb C F N hm hP hb hfit hq
  have KX := C.X
  revert KX
  k_fill
  intro KX
  refine enter (binds := [(Str.ofString "heap", .ref hp), (Str.ofString "pos", .int b tb)]) C F N (by k_is) (by k_is) (BindsTo.of_eq rfl) (locs rfl) rfl rfl rfl (by decide) ?_
  clear F
  intro g L' s₁ Q' r₁ C' F' N' back
  have X' := C'.X
  obtain ⟨p, loose, mean, mg, mb, T'⟩ := C'.T
  have hlen := hP.1
  simp only [pinL, List.reverse_cons, List.reverse_nil, List.nil_append, List.cons_append] at F'
  walk_at "mine go"
  rename PairAt _ _ _ => px
  rename (_ = some (Value.ref _)) => ex
  rename Fr _ _ _ _ => F₂
  rename News _ _ _ _ => N₂
  rename (rst _ = _) => r₂
  simp only [Int.toNat_natCast] at px ex
  refine while_inv (n₀ := ps.length - b) (fun c m₁ nx => ∃ its' ps' q, (∀ v ∈ its', v ∈ its) ∧ c = ps.length - q ∧ nx = setN news hp (listOf its'.toArray n) ∧ Pairs news its' ps' ∧ ps'.length = ps.length ∧ q < ps.length ∧ desc ps' q = desc ps b ∧
    m₁ (Str.ofString "heap") = some (.ref hp) ∧ m₁ (Str.ofString "startpos") = some (.int b tb) ∧ (∃ t, m₁ (Str.ofString "endpos") = some (.int (ps.length : Int) t)) ∧ (∃ t, m₁ (Str.ofString "pos") = some (.int (q : Int) t)) ∧
    (∃ t, m₁ (Str.ofString "childpos") = some (.int (2 * (q : Int) + 1) t)) ∧ (∃ xa, m₁ (Str.ofString "newitem") = some (.ref xa) ∧ PairAt news xa (ps.getD b (0, 0)) ∧ Value.ref xa ∈ its)) F₂ N₂ ?_ ?_
  · exact ⟨its, ps, b, fun _ h => h, rfl, (setN_same N hm).symm, hP, rfl, hb, rfl, rfl, rfl, ⟨_, rfl⟩, ⟨_, rfl⟩, ⟨_, rfl⟩, ⟨_, rfl, px, List.mem_of_getElem? ex⟩⟩
  rintro c m₁ nx s₃ r₃ F₃ N₃ ⟨its', ps', q, hsub, rfl, rfl, hP', hl', hq', hsd, e1, e2, ⟨t1, e3⟩, ⟨t2, e4⟩, ⟨t3, e5⟩, ⟨xa, e6, px', hxi⟩⟩
  have F₄ := Fr.pins [(Str.ofString "heap", .ref hp), (Str.ofString "startpos", .int b tb), (Str.ofString "endpos", .int (ps.length : Int) t1), (Str.ofString "pos", .int (q : Int) t2), (Str.ofString "childpos", .int (2 * (q : Int) + 1) t3), (Str.ofString "newitem", .ref xa)] F₃ (by simp [e1, e2, e3, e4, e5, e6])
  dsimp only [pinL] at F₄
  have hlen' := hP'.1
  clear F₂ N₂ F₃ px ex
  walk_at "mine go"
  · rename PairAt _ _ _ => py
    rename (_ = some (Value.ref _)) => ey
    rename (_ = true) => hlt
    rename (2 * _ + 1 < _) => hac
    rename Fr _ _ _ _ => FZ
    rename News _ _ _ _ => NZ
    have hk : kid ps' q = 2 * q + 1 := kid_l (by omega) (by omega) hlt
    refine ⟨_, _, ps.length - (2 * q + 1), by walk_at "mine rst", FZ, NZ, by omega, _, _, 2 * q + 1, sub_set hsub (hsub _ (List.mem_of_getElem? ey)), rfl, rfl, Pairs.put hP' _ ⟨_, rfl, py⟩, by simp [hl'], by omega, ?_, rfl, rfl, ⟨_, rfl⟩,
      ⟨_, congrArg (fun z => some (Value.int z _)) (show 2 * (q : Int) + 1 = ((2 * q + 1 : Nat) : Int) by omega)⟩, ⟨_, congrArg (fun z => some (Value.int z _)) (show 2 * (2 * (q : Int) + 1) + 1 = 2 * ((2 * q + 1 : Nat) : Int) + 1 by omega)⟩, ⟨_, rfl, px', hxi⟩⟩
    have e : (2 * (q : Int) + 1).toNat = 2 * q + 1 := by omega
    rw [e]
    conv => rhs; rw [← hsd, desc, if_pos (by omega), hk]
    simp
  · rename PairAt _ _ _ => py
    rename (_ = some (Value.ref _)) => ey
    rename (_ = false) => hlt
    rename (2 * _ + 1 + 1 < _) => hr
    rename (2 * _ + 1 < _) => hac
    rename Fr _ _ _ _ => FZ
    rename News _ _ _ _ => NZ
    have hk : kid ps' q = 2 * q + 2 := kid_r (by omega) (by omega) (by omega) hlt
    refine ⟨_, _, ps.length - (2 * q + 2), by walk_at "mine rst", FZ, NZ, by omega, _, _, 2 * q + 2, sub_set hsub (hsub _ (List.mem_of_getElem? ey)), rfl, rfl, Pairs.put hP' _ ⟨_, rfl, py⟩, by simp [hl'], by omega, ?_, rfl, rfl, ⟨_, rfl⟩,
      ⟨_, congrArg (fun z => some (Value.int z _)) (show 2 * (q : Int) + 1 + 1 = ((2 * q + 2 : Nat) : Int) by omega)⟩, ⟨_, congrArg (fun z => some (Value.int z _)) (show 2 * (2 * (q : Int) + 1 + 1) + 1 = 2 * ((2 * q + 2 : Nat) : Int) + 1 by omega)⟩, ⟨_, rfl, px', hxi⟩⟩
    have e : (2 * (q : Int) + 1 + 1).toNat = 2 * q + 2 := by omega
    rw [e]
    conv => rhs; rw [← hsd, desc, if_pos (by omega), hk]
    simp
  · rename PairAt _ _ _ => py
    rename (_ = some (Value.ref _)) => ey
    rename (¬ _) => hr
    rename (2 * _ + 1 < _) => hac
    rename Fr _ _ _ _ => FZ
    rename News _ _ _ _ => NZ
    have hk : kid ps' q = 2 * q + 1 := kid_n (by omega)
    refine ⟨_, _, ps.length - (2 * q + 1), by walk_at "mine rst", FZ, NZ, by omega, _, _, 2 * q + 1, sub_set hsub (hsub _ (List.mem_of_getElem? ey)), rfl, rfl, Pairs.put hP' _ ⟨_, rfl, py⟩, by simp [hl'], by omega, ?_, rfl, rfl, ⟨_, rfl⟩,
      ⟨_, congrArg (fun z => some (Value.int z _)) (show 2 * (q : Int) + 1 = ((2 * q + 1 : Nat) : Int) by omega)⟩, ⟨_, congrArg (fun z => some (Value.int z _)) (show 2 * (2 * (q : Int) + 1) + 1 = 2 * ((2 * q + 1 : Nat) : Int) + 1 by omega)⟩, ⟨_, rfl, px', hxi⟩⟩
    have e : (2 * (q : Int) + 1).toNat = 2 * q + 1 := by omega
    rw [e]
    conv => rhs; rw [← hsd, desc, if_pos (by omega), hk]
    simp
  · rename (¬ _) => hac
    rename Fr _ _ _ _ => FZ
    rename News _ _ _ _ => NZ
    have hd : desc ps b = (ps', q) := by rw [← hsd, desc, if_neg (by omega)]
    refine siftdown_call C' FZ NZ (mem_setN_self hm) (Pairs.set (Pairs.put hP' _ ⟨_, rfl, px'⟩) N hm) (by simp; omega) (by simp; omega) ?_
    intro s₅ its₅ r₅ F₅ N₅ p₅ sub₅
    clear FZ NZ
    walk_at "mine go"
    refine back _ _ _ _ F₅ N₅ fun F N => ?_
    rw [setN_setN] at N
    refine hq _ _ (by walk_at "mine rst") F N ?_ (fun v hv => sub_set hsub hxi v (sub₅ v hv))
    have p₆ := p₅.unset
    unfold suF
    rw [hd]
    simpa using p₆

theorem heapify_call : ∀ {w : World} {A : Around} {E : Value → Shared → Prop} {s : Shared} {h₀ : Heap} {L hp : Addr} {k : Nat} {m : Str → Option Value} {news : List (Addr × Obj)} {Q : Value → Shared → Prop} {its : List Value} {ps : List P} {n : Nat}
    (C : Cx w A h₀ L (k + 1 + 1 + 1)) (F : Fr h₀ L s.heap m) (N : News h₀ L s.heap news) (hm : (hp, listOf its.toArray n) ∈ news) (hP : Pairs news its ps) (hfit : ps.length < 1000)
    (hq : ∀ s' its', rst s' = rst s → Fr h₀ L s'.heap m → News h₀ L s'.heap (setN news hp (listOf its'.toArray n)) → Pairs news its' (heapF ps) → (∀ v ∈ its', v ∈ its) → Q .none s'),
    wpAny (model Challenge.rw_dn0052_01.row.prog w) A (call (.ref 28) [.ref hp]) Q E s := by
  intro w A E s h₀ L hp k m news Q its ps n C F N hm hP hfit hq
  have KX := C.X
  revert KX
  k_fill
  intro KX
  refine enter (binds := [(Str.ofString "x", .ref hp)]) C F N (by k_is) (by k_is) (BindsTo.of_eq rfl) (locs rfl) rfl rfl rfl (by decide) ?_
  clear F
  intro g L' s₁ Q' r₁ C' F' N' back
  have X' := C'.X
  obtain ⟨p, loose, mean, mg, mb, T'⟩ := C'.T
  have hlen := hP.1
  simp only [pinL, List.reverse_cons, List.reverse_nil, List.nil_append, List.cons_append] at F'
  walk_at "mine go"
  rename Fr _ _ _ _ => F₂
  rename News _ _ _ _ => N₂
  rename (∀ p, p ∈ _ → _) => lI
  refine iter_it N₂ (.head _) ?_
  refine for_rng (n := ps.length / 2) (news := news) (fun i m₁ nx => ∃ its' ps', (∀ v ∈ its', v ∈ its) ∧ nx = setN news hp (listOf its'.toArray n) ∧ Pairs news its' ps' ∧ ps'.length = ps.length ∧ hfy ps' (ps.length / 2 - i) = heapF ps ∧ m₁ (Str.ofString "x") = some (.ref hp))
    C'.hh (N₂ _ (.head _)).1 (N₂ _ (.head _)).2.2 (fun p hp => Nat.ne_of_lt (lI p (.tail _ hp))) F₂ (news_tail (news_tail N₂)) ⟨its, ps, fun _ h => h, (setN_same N hm).symm, hP, rfl, rfl, rfl⟩ ?_ ?_
  · rintro i t m₁ nx s₃ oI cI r₃ hi ⟨its', ps', hsub, rfl, hP', hl', hh', e1⟩ hnI F₃ N₃
    have hIh := hnI _ (mem_setN_self hm)
    have hj : ((ps.length / 2 : Nat) : Int) - 1 + (i : Int) * -1 = ((ps.length / 2 - 1 - i : Nat) : Int) := by omega
    rw [hj] at F₃
    have F₄ := Fr.pins' [(Str.ofString "x", .ref hp)] F₃ (by simp [e1])
    dsimp only [pinL] at F₄
    have hlen' := hP'.1
    have hnI' : ∀ p ∈ news, p.1 ≠ _ := fun p hp => Nat.ne_of_lt (lI p (.tail _ hp))
    clear F₂ N₂ F₃ lI
    walk_at "mine go"
    rename Fr _ _ _ _ => FZ
    rename News _ _ _ _ => NZ
    refine siftup_call C' FZ NZ (.tail _ (mem_setN_self hm)) (Pairs.tail (Pairs.set hP' N hm)) (by omega) (by omega) ?_
    intro s₅ its₅ r₅ F₅ N₅ p₅ sub₅
    clear FZ NZ
    rw [setN_cons (Ne.symm hIh), setN_setN] at N₅
    walk_at "mine go"
    refine ⟨_, _, by walk_at "mine rst", F₅, N₅, setN_adr (R := fun z => z ≠ _) (fun p hp => hnI' p hp), _, _, fun v hv => hsub v (sub₅ v hv), rfl, (p₅.drop (by rw [cI]; decide)).unset, by rw [suF_length]; exact hl', ?_, rfl⟩
    rw [← hh', show ps.length / 2 - i = (ps.length / 2 - 1 - i) + 1 by omega, hfy]
    rw [show ps.length / 2 - 1 - i = ps.length / 2 - (i + 1) by omega]
  · rintro m₁ nx s₃ r₃ F₃ N₃ hnI ⟨its', ps', hsub, rfl, hP', hl', hh', e1⟩
    clear F₂ N₂ lI
    dsimp only
    walk_at "mine go"
    refine back _ _ _ _ F₃ N₃ fun F N => hq _ _ (by walk_at "mine rst") F N ?_ ?_
    rw [Nat.sub_self, hfy] at hh'
    · rw [← hh']
      exact hP'
    · exact hsub

theorem heapreplace_call : ∀ {w : World} {A : Around} {E : Value → Shared → Prop} {s : Shared} {h₀ : Heap} {L hp xa : Addr} {k : Nat} {m : Str → Option Value} {news : List (Addr × Obj)} {Q : Value → Shared → Prop} {its : List Value} {ps : List P} {q : P} {n : Nat}
    (C : Cx w A h₀ L (k + 1 + 1 + 1)) (F : Fr h₀ L s.heap m) (N : News h₀ L s.heap news) (hm : (hp, listOf its.toArray n) ∈ news) (hP : Pairs news its ps) (hx : PairAt news xa q) (h0 : 0 < ps.length) (hfit : ps.length < 1000)
    (hq : ∀ s' its' a, rst s' = rst s → Fr h₀ L s'.heap m → News h₀ L s'.heap (setN news hp (listOf its'.toArray n)) → Pairs news its' (suF (ps.set 0 q) 0) → PairAt news a (ps.getD 0 (0, 0)) → (∀ v ∈ its', v ∈ its.set 0 (.ref xa)) → Q (.ref a) s'),
    wpAny (model Challenge.rw_dn0052_01.row.prog w) A (call (.ref 21) [.ref hp, .ref xa]) Q E s := by
  intro w A E s h₀ L hp xa k m news Q its ps q n C F N hm hP hx h0 hfit hq
  have KX := C.X
  revert KX
  k_fill
  intro KX
  refine enter (binds := [(Str.ofString "heap", .ref hp), (Str.ofString "item", .ref xa)]) C F N (by k_is) (by k_is) (BindsTo.of_eq rfl) (locs rfl) rfl rfl rfl (by decide) ?_
  clear F
  intro g L' s₁ Q' r₁ C' F' N' back
  have X' := C'.X
  obtain ⟨p, loose, mean, mg, mb, T'⟩ := C'.T
  have hlen := hP.1
  simp only [pinL, List.reverse_cons, List.reverse_nil, List.nil_append, List.cons_append] at F'
  walk_at "mine go"
  rename Fr _ _ _ _ => FZ
  rename News _ _ _ _ => NZ
  refine siftup_call (b := 0) C' FZ NZ (mem_setN_self hm) (Pairs.set (Pairs.put hP 0 ⟨_, rfl, hx⟩) N hm) (by simp; omega) (by simp; omega) ?_
  intro s₅ its₅ r₅ F₅ N₅ p₅ sub₅
  clear FZ NZ
  rw [setN_setN] at N₅
  walk_at "mine go"
  refine back _ _ _ _ F₅ N₅ fun F N => hq _ _ _ (by walk_at "mine rst") F N p₅.unset (by assumption) sub₅

theorem below_call : ∀ {w : World} {A : Around} {E : Value → Shared → Prop} {s : Shared} {h₀ : Heap} {L : Addr} {k : Nat} {m : Str → Option Value} {news : List (Addr × Obj)} {Q : Value → Shared → Prop} {i count : Nat} {ti tc : Tok}
    (C : Cx w A h₀ L (k + 1)) (F : Fr h₀ L s.heap m) (N : News h₀ L s.heap news) (hi : i < count) (hfit : count < 1000)
    (hq : ∀ s' a its n, rst s' = rst s → Fr h₀ L s'.heap m → News h₀ L s'.heap ((a, listOf its.toArray n) :: news) → (∀ p ∈ news, p.1 < a) → Nats its (belowF i count) → Q (.ref a) s'),
    wpAny (model Challenge.rw_dn0052_01.row.prog w) A (call (.ref 56) [.int i ti, .int count tc]) Q E s := by
  intro w A E s h₀ L k m news Q i count ti tc C F N hi hfit hq
  have KX := C.X
  revert KX
  k_fill
  intro KX
  refine enterC (binds := [(Str.ofString "i", .int i ti), (Str.ofString "count", .int count tc)]) C F N (by k_is) (by k_is) (BindsTo.of_eq rfl) rfl (by decide +kernel) rfl rfl rfl ?_
  clear F
  intro g L' s₁ cells Q' r₁ C' F' N' Y lL back
  have X' := C'.X
  obtain ⟨p, loose, mean, mg, mb, T'⟩ := C'.T
  obtain ⟨o1, hE, d1⟩ := CellsAre.one Y
  subst hE
  replace d1 : o1.data = .cell (some (.int (count : Int) tc)) := d1
  replace F' : Fr g L' s₁.heap (fun y => if y = Str.ofString "i" then some (.int (i : Int) ti) else none) := F'
  clear Y
  walk_at "mine go"
  rename Fr _ _ _ _ => F₂
  rename News _ _ _ _ => N₂
  rename (rst _ = _) => r₂
  rename (∀ p, p ∈ _ → _ < _) => l1
  rename_i pl _ _ _ _ _ _ s₂
  simp only [List.cons_append, List.nil_append] at N₂ l1
  have hne : ∀ p ∈ (L' + 1, o1) :: news, p.1 ≠ pl := fun p hp => Nat.ne_of_lt (l1 p hp)
  have hz := szF_pos hi
  have hzle := szF_le i count
  refine while_inv (n₀ := szF i count) (fun c m₁ nx => ∃ at' its n', c = szF i count - at' ∧ at' ≤ szF i count ∧ nx = (pl, listOf its.toArray n') :: (L' + 1, o1) :: news ∧ Nats its ((List.range (min (2 * at' + 1) (szF i count))).map (nd i)) ∧
    m₁ (Str.ofString "places") = some (.ref pl) ∧ (∃ t, m₁ (Str.ofString "at") = some (.int (at' : Int) t))) F₂ N₂ ?_ ?_
  · refine ⟨0, [.int (i : Int) ti], 0, rfl, Nat.zero_le _, rfl, ?_, rfl, ⟨_, rfl⟩⟩
    rw [show min (2 * 0 + 1) (szF i count) = 1 by omega]
    simp only [List.range_one, List.map_cons, List.map_nil, nd_zero]
    exact Nats.cons Nats.nil _ _
  rintro c m₁ nx s₃ r₃ F₃ N₃ ⟨at', its, n', rfl, hat, rfl, hN, e1, ⟨t, e2⟩⟩
  have F₄ := Fr.pins [(Str.ofString "places", .ref pl), (Str.ofString "at", .int (at' : Int) t)] F₃ (by simp [e1, e2])
  dsimp only [pinL] at F₄
  have hlen' := hN.1
  simp only [List.length_map, List.length_range] at hlen'
  clear F₂ N₂ F₃
  walk_at "mine go"
  · refine LCt.ListComp_T (F₀ := by k_asm) (by with_unfolding_all rfl) (by decide) (by rfl) (by decide) (by rfl) ?_
    walk_at "mine go"
    rename Fr _ _ _ _ => F₅
    rename News _ _ _ _ => N₅
    rename (∀ p, p ∈ _ → _ < _) => l₅
    rename (rst _ = _) => r₅
    rename ((_ : Int) < _) => hlt
    have hat2 : at' < szF i count := by omega
    have hget : (List.map (nd i) (List.range (min (2 * at' + 1) (szF i count)))).getD at' 0 = nd i at' := by
      rw [List.getD_eq_getElem?_getD, List.getElem?_map, List.getElem?_range (by omega)]; rfl
    rw [hget] at N₅
    have h1 : 2 * ((nd i at' : Nat) : Int) + 1 = ((2 * nd i at' + 1 : Nat) : Int) := by omega
    have h2 : 2 * ((nd i at' : Nat) : Int) + 2 = ((2 * nd i at' + 2 : Nat) : Int) := by omega
    rw [h1, h2] at N₅
    refine srcT_l (its := [_, _]) (fun j ys nw => nw = (_, listOf (List.toArray [_, _]) 0) :: (pl, listOf its.toArray n') :: (L' + 1, o1) :: news ∧ Nats ys (([2 * nd i at' + 1, 2 * nd i at' + 2].take j).filter (fun z => decide (z < count)))) C'.hh F₅ N₅ (.head _) (by simp) ⟨rfl, by simpa using Nats.nil⟩ ?_ ?_
    · rintro j v I oI C oC D m₂ s₆ ys nw E' hj ⟨rfl, hys⟩ hv hC hx r₆ F₆ N₆ off ne
      clear F₅ N₅
      obtain ⟨z, tz, hz, rfl⟩ : ∃ (z : Nat) (tz : Tok), [2 * nd i at' + 1, 2 * nd i at' + 2][j]? = some z ∧ v = .int (z : Int) tz := by
        match j, hj with
        | 0, _ => exact ⟨_, _, rfl, (Option.some.inj hv).symm⟩
        | 1, _ => exact ⟨_, _, rfl, (Option.some.inj hv).symm⟩
      walk_at "mine go"
      · rename ((_ : Int) < _) => hzc
        refine ⟨_, by walk_at "mine rst", F₆, N₆, off, .inr ⟨_, .head _, rfl, _, rfl⟩, rfl, ?_⟩
        rw [List.take_add_one, hz, Option.toList_some, List.filter_append]
        have e : List.filter (fun z => decide (z < count)) [z] = [z] := by simp; omega
        rw [e]
        exact Nats.append hys (Nats.cons Nats.nil z tz)
      · rename (¬ (_ : Int) < _) => hzc
        refine ⟨_, by walk_at "mine rst", F₆, N₆, off, .inr ⟨_, .head _, rfl, _, rfl⟩, rfl, ?_⟩
        rw [List.take_add_one, hz, Option.toList_some, List.filter_append]
        have e : List.filter (fun z => decide (z < count)) [z] = [] := by simp; omega
        rw [e, List.append_nil]
        exact hys
    · rintro D ys nw s₇ r₇ F₇ N₇ hD ⟨rfl, hys⟩
      clear F₅ N₅
      replace hys : Nats ys (List.filter (fun z => decide (z < count)) [2 * nd i at' + 1, 2 * nd i at' + 2]) := hys
      have hyl := hys.1
      have hyl2 := List.length_filter_le (fun z => decide (z < count)) [2 * nd i at' + 1, 2 * nd i at' + 2]
      simp only [List.length_cons, List.length_nil] at hyl2
      rw [← hyl] at hyl2
      clear hyl
      walk_at "mine go"
      rename Fr _ _ _ _ => F₈
      rename News _ _ _ _ => N₈
      have N₉ := news_top (r := (L' + 1, o1) :: news) N₈ (.tail _ (.tail _ (.head _))) (fun p hp => ⟨.tail _ (.tail _ (.tail _ hp)), hne p hp⟩)
      refine ⟨_, _, szF i count - (at' + 1), by walk_at "mine rst", F₈, N₉, by omega, at' + 1, its ++ ys, _, rfl, by omega, rfl, ?_, rfl, ⟨_, congrArg (fun z => some (Value.int z _)) (show (at' : Int) + 1 = ((at' + 1 : Nat) : Int) by omega)⟩⟩
      · rw [below_step]
        exact Nats.append hN hys
  · rename (¬ (_ : Int) < _) => hlt
    have e : at' = szF i count := by omega
    subst e
    refine back _ _ _ _ F₄ N₃ fun F N => hq _ pl its n' (by walk_at "mine rst") F (news_sub N ?_) ?_ ?_
    · intro p hp
      rcases List.mem_cons.mp hp with rfl | hp
      · exact .head _
      · exact .tail _ (.tail _ hp)
    · intro p hp
      exact l1 p (.tail _ hp)
    · unfold belowF
      rw [show min (2 * szF i count + 1) (szF i count) = szF i count by omega] at hN
      exact hN

theorem undo_call : ∀ {w : World} {A : Around} {E : Value → Shared → Prop} {s : Shared} {h₀ : Heap} {L rp : Addr} {k : Nat} {m : Str → Option Value} {news : List (Addr × Obj)} {Q : Value → Shared → Prop} {its : List Value} {ps : List P} {n i pick : Nat} {ti tp : Tok}
    (C : Cx w A h₀ L (k + 1 + 1)) (F : Fr h₀ L s.heap m) (N : News h₀ L s.heap news) (hm : (rp, listOf its.toArray n) ∈ news) (hP : Pairs news its ps) (hi : i < ps.length) (hpk : pick < szF i ps.length) (hfit : ps.length < 1000)
    (hq : ∀ s' a its' n', rst s' = rst s → Fr h₀ L s'.heap m → News h₀ L s'.heap ((a, listOf its'.toArray n') :: news) → (∀ p ∈ news, p.1 < a) → Pairs news its' (undoF ps i pick) → (∀ v ∈ its', v ∈ its) → Q (.ref a) s'),
    wpAny (model Challenge.rw_dn0052_01.row.prog w) A (call (.ref 68) [.ref rp, .int i ti, .int pick tp]) Q E s := by
  intro w A E s h₀ L rp k m news Q its ps n i pick ti tp C F N hm hP hi hpk hfit hq
  have KX := C.X
  revert KX
  k_fill
  intro KX
  refine enter (binds := [(Str.ofString "row", .ref rp), (Str.ofString "i", .int i ti), (Str.ofString "pick", .int pick tp)]) C F N (by k_is) (by k_is) (BindsTo.of_eq rfl) (locs rfl) rfl rfl rfl (by decide) ?_
  clear F
  intro g L' s₁ Q' r₁ C' F' N' back
  have X' := C'.X
  obtain ⟨p, loose, mean, mg, mb, T'⟩ := C'.T
  have hlen := hP.1
  have hb1 := belowF_length i ps.length
  have hzle := szF_le i ps.length
  simp only [pinL, List.reverse_cons, List.reverse_nil, List.nil_append, List.cons_append] at F'
  walk_at "mine go"
  rename Fr _ _ _ _ => F₂
  rename News _ _ _ _ => N₂
  rename (∀ p, p ∈ _ → _ < _) => l₂
  refine below_call C' F₂ N₂ hi hfit ?_
  intro s₅ a₅ its₅ n₅ r₅ F₅ N₅ l₅ h₅
  clear F₂ N₂
  have hgd := belowF_get hpk
  have hnd := nd_lt hpk
  walk_at "mine go"
  rename PairAt _ _ _ => px
  rename (_ = some (Value.ref _)) => ex
  rename Fr _ _ _ _ => F₆
  rename News _ _ _ _ => N₆
  rename (rst _ = _) => r₆
  rw [Int.toNat_natCast, hgd] at px
  rw [hgd] at F₆
  have hdr := news_tail N₆
  refine while_inv (n₀ := nd i pick) (fun c m₁ nx => ∃ b its' ps' n', nx = (b, listOf its'.toArray n') :: news ∧ (∀ p ∈ news, p.1 < b) ∧ Pairs news its' ps' ∧ (∀ v ∈ its', v ∈ its) ∧ ps'.length = ps.length ∧ c < ps.length ∧ un ps' i (ps.getD (nd i pick) (0, 0)) c = undoF ps i pick ∧
    m₁ (Str.ofString "row") = some (.ref b) ∧ m₁ (Str.ofString "i") = some (.int i ti) ∧ (∃ t, m₁ (Str.ofString "place") = some (.int (c : Int) t)) ∧ (∃ xa, m₁ (Str.ofString "item") = some (.ref xa) ∧ PairAt news xa (ps.getD (nd i pick) (0, 0)) ∧ Value.ref xa ∈ its)) F₆ hdr ?_ ?_
  · exact ⟨_, its, ps, _, rfl, l₂, hP, fun _ h => h, rfl, hnd, rfl, rfl, rfl, ⟨_, rfl⟩, ⟨_, rfl, px, List.mem_of_getElem? ex⟩⟩
  rintro c m₁ nx s₇ r₇ F₇ N₇ ⟨b, its', ps', n', rfl, lb, hP', hsub, hl', hc, hun, e1, e2, ⟨t, e3⟩, ⟨xa, e4, px', hxa⟩⟩
  have F₈ := Fr.pins [(Str.ofString "row", .ref b), (Str.ofString "i", .int i ti), (Str.ofString "place", .int (c : Int) t), (Str.ofString "item", .ref xa)] F₇ (by simp [e1, e2, e3, e4])
  dsimp only [pinL] at F₈
  have hlen' := hP'.1
  clear F₇ F₆ N₆ px hdr
  walk_at "mine go"
  · rename ((_ : Int) < _) => hic
    rename PairAt _ _ _ => py
    rename (_ = some (Value.ref _)) => ey
    rename Fr _ _ _ _ => F₉
    rename News _ _ _ _ => N₉
    have N₁₀ := news_top (r := news) N₉ (.head _) (fun p hp => ⟨.tail _ hp, Nat.ne_of_lt (lb p hp)⟩)
    have e : (((c : Int) - 1) / 2).toNat = (c - 1) / 2 := by omega
    rw [e] at py
    refine ⟨_, _, (c - 1) / 2, by walk_at "mine rst", F₉, N₁₀, by omega, b, _, _, _, rfl, lb, Pairs.put hP' _ ⟨_, rfl, py⟩, sub_set hsub (hsub _ (List.mem_of_getElem? ey)), by simp [hl'], by omega, ?_, rfl, rfl, ⟨_, congrArg (fun z => some (Value.int z _)) (show ((c : Int) - 1) / 2 = (((c - 1) / 2 : Nat) : Int) by omega)⟩, ⟨_, rfl, px', hxa⟩⟩
    conv => rhs; rw [← hun, un, if_pos (by omega)]
    simp
  · rename (¬ (_ : Int) < _) => hic
    rename Fr _ _ _ _ => F₉
    rename News _ _ _ _ => N₉
    have N₁₀ := news_top (r := news) N₉ (.head _) (fun p hp => ⟨.tail _ hp, Nat.ne_of_lt (lb p hp)⟩)
    refine back _ _ _ _ F₉ N₁₀ fun F N => hq _ b _ _ (by walk_at "mine rst") F N lb ?_ (sub_set hsub hxa)
    rw [← hun, un, if_neg (by omega)]
    exact Pairs.put hP' _ ⟨_, rfl, px'⟩

theorem sub_swap {a b c d : Addr × Obj} {r : List (Addr × Obj)} : ∀ p ∈ a :: c :: b :: r, p ∈ a :: b :: c :: d :: r := by
  intro p hp
  rcases List.mem_cons.mp hp with rfl | hp
  · exact .head _
  · rcases List.mem_cons.mp hp with rfl | hp
    · exact .tail _ (.tail _ (.head _))
    · rcases List.mem_cons.mp hp with rfl | hp
      · exact .tail _ (.head _)
      · exact .tail _ (.tail _ (.tail _ (.tail _ hp)))
theorem off_put {l r : List (Addr × Obj)} {a I : Addr} {o o' : Obj} (h : ∀ p ∈ l ++ (a, o) :: r, p.1 ≠ I) : ∀ p ∈ l ++ (a, o') :: r, p.1 ≠ I := by
  intro p hp
  rcases List.mem_append.mp hp with hp | hp
  · exact h p (List.mem_append_left _ hp)
  · rcases List.mem_cons.mp hp with rfl | hp
    · exact h (a, o) (List.mem_append_right _ (.head _))
    · exact h p (List.mem_append_right _ (.tail _ hp))
theorem Nats.reverse {vs : List Value} {ns : List Nat} (x : Nats vs ns) : Nats vs.reverse ns.reverse := by
  have hl := x.1
  refine ⟨by simp [hl], fun i v n a b => ?_⟩
  have hi : i < vs.length := by
    rcases Nat.lt_or_ge i vs.length with h | h
    · exact h
    · rw [List.getElem?_eq_none (by simpa using h)] at a; cases a
  rw [List.getElem?_reverse hi] at a
  rw [List.getElem?_reverse (by omega), ← hl] at b
  exact x.2 _ v n a b
theorem steps_call : ∀ {w : World} {A : Around} {E : Value → Shared → Prop} {s : Shared} {h₀ : Heap} {L rp : Addr} {k : Nat} {m : Str → Option Value} {news : List (Addr × Obj)} {Q : Value → Shared → Prop} {its : List Value} {ps : List P} {n : Nat}
    (C : Cx w A h₀ L (k + 1 + 1 + 1 + 1)) (F : Fr h₀ L s.heap m) (N : News h₀ L s.heap news) (hm : (rp, listOf its.toArray n) ∈ news) (hP : Pairs news its ps) (h0 : 0 < ps.length) (hfit : ps.length < 1000)
    (hq : ∀ s' a r t its' nits n1 n2 n3, rst s' = rst s → Fr h₀ L s'.heap m → News h₀ L s'.heap ((a, tupObj [.ref r, .ref t] n3) :: (r, listOf its'.toArray n1) :: (t, listOf nits.toArray n2) :: news) → (∀ p ∈ news, p.1 < r) → (∀ p ∈ news, p.1 < t) → (∀ p ∈ news, p.1 < a) → r ≠ t → a ≠ r → a ≠ t →
      Pairs news its' (stepsF ps).1 → Nats nits (stepsF ps).2 → Q (.ref a) s'),
    wpAny (model Challenge.rw_dn0052_01.row.prog w) A (call (.ref 61) [.ref rp]) Q E s := by
  intro w A E s h₀ L rp k m news Q its ps n C F N hm hP h0 hfit hq
  have KX := C.X
  revert KX
  k_fill
  intro KX
  refine enterC (binds := [(Str.ofString "row", .ref rp)]) C F N (by k_is) (by k_is) (BindsTo.of_eq rfl) rfl (by decide +kernel) rfl rfl rfl ?_
  clear F
  intro g L' s₁ cells Q' r₁ C' F' N' Y lL back
  have X' := C'.X
  obtain ⟨p, loose, mean, mg, mb, T'⟩ := C'.T
  obtain ⟨o1, hE, d1⟩ := CellsAre.one Y
  subst hE
  replace d1 : o1.data = .cell (some (.ref rp)) := d1
  replace F' : Fr g L' s₁.heap (fun _ => none) := F'
  clear Y
  have hlen := hP.1
  simp only [List.cons_append, List.nil_append] at N'
  walk_at "mine gs"
  rename Fr _ _ _ _ => F₂
  rename News _ _ _ _ => N₂
  rename (∀ p, p ∈ _ → _ < _) => l₂
  rename_i rowA s₂ n₂ r₂
  refine store_c F₂ N₂ rfl (.tail _ (.head _)) d1 ?_
  intro s₃ o₃ r₃ F₃ N₃ d₃
  have lc : ∀ p ∈ news, p.1 ≠ L' + 1 := fun p hp => Nat.ne_of_lt (Nat.lt_succ_of_lt (lL p hp))
  have hrc : L' + 1 < rowA := l₂ _ (.head _)
  have lr : ∀ p ∈ news, p.1 < rowA := fun p hp => l₂ p (.tail _ hp)
  rw [setN_cons (Ne.symm (Nat.ne_of_lt hrc)), setN_head lc] at N₃
  clear F₂ N₂ d1 l₂
  walk_at "mine gs"
  rename Fr _ _ _ _ => F₂
  rename News _ _ _ _ => N₂
  rename (∀ p, p ∈ _ → _ < _) => l₂
  rename_i nt s₄ r₄
  have hnr : rowA < nt := l₂ _ (.head _)
  have hnc : L' + 1 < nt := l₂ _ (.tail _ (.head _))
  have ln : ∀ p ∈ news, p.1 < nt := fun p hp => l₂ p (.tail _ (.tail _ hp))
  refine store_l F₂ N₂ ?_
  intro s₅ r₅ F₅ N₅
  clear F₂ N₂ l₂
  walk_at "mine go"
  rename Fr _ _ _ _ => F₆
  rename News _ _ _ _ => N₆
  rename (∀ p, p ∈ _ → _ < _) => lI
  rename_i I s₆ r₆
  refine iter_it N₆ (.head _) ?_
  refine for_rng (n := ps.length / 2) (news := (nt, listOf #[] 0) :: (rowA, listOf its.toArray n₂) :: (L' + 1, o₃) :: news)
    (fun i m₁ nx => ∃ its' ps' n' nits no n'', nx = (nt, listOf nits.toArray n'') :: (rowA, listOf its'.toArray n') :: (L' + 1, o₃) :: news ∧ Pairs news its' ps' ∧ ps'.length = ps.length ∧ Nats nits no ∧ no.length = i ∧
      stepsG (ps.length / 2 - i) ps' no = stepsG (ps.length / 2) ps [] ∧ m₁ (Str.ofString "noted") = some (.ref nt))
    C'.hh (N₆ _ (.head _)).1 (N₆ _ (.head _)).2.2 (fun p hp => Nat.ne_of_lt (lI p (.tail _ hp))) F₆ (news_tail (news_tail N₆)) ⟨its, ps, n₂, [], [], 0, rfl, hP, rfl, Nats.nil, rfl, rfl, rfl⟩ ?_ ?_
  · rintro i t m₁ nx s₇ oI cI r₇ hi ⟨its', ps', n', nits, no, n'', rfl, hP', hl', hN', hno, hst, e1⟩ hnI F₇ N₇
    have hIr : rowA ≠ I := hnI _ (.tail _ (.head _))
    have hIn : nt ≠ I := hnI _ (.head _)
    have hIc : L' + 1 ≠ I := hnI _ (.tail _ (.tail _ (.head _)))
    have hIw : ∀ p ∈ news, p.1 ≠ I := fun p hp => hnI _ (.tail _ (.tail _ (.tail _ hp)))
    have hj : ((ps.length / 2 : Nat) : Int) - 1 + (i : Int) * -1 = ((ps.length / 2 - 1 - i : Nat) : Int) := by omega
    rw [hj] at F₇
    generalize hjd : ps.length / 2 - 1 - i = j at F₇
    have hjl : j < ps'.length := by omega
    have F₈ : Fr g L' s₇.heap _ := Fr.pins' [(Str.ofString "noted", .ref nt)] F₇ (by simp [e1])
    replace N₇ : News g L' s₇.heap _ := N₇
    dsimp only [pinL] at F₈
    have hlen' := hP'.1
    clear F₆ N₆ F₇ lI
    show wpAny _ _ _ _ _ _
    k_fold
    walk_at "mine go"
    refine below_call C' F₈ N₇ hjl (by omega) ?_
    intro s₉ pl pits pn r₉ F₉ N₉ lpl hpl
    clear F₈ N₇
    have hpll := hpl.1
    rw [belowF_length] at hpll
    have hzle := szF_le j ps'.length
    have hzp := szF_pos hjl
    walk_at "mine go"
    refine LCg.Assign_ListComp_U (F₀ := by k_asm) (by rfl) (by with_unfolding_all rfl) (by with_unfolding_all rfl) (by decide) (by rfl) (by decide) (by rfl) (by rfl) (by rfl) ?_
    walk_at "mine go"
    rename Fr _ _ _ _ => F₁₀
    rename News _ _ _ _ => N₁₀
    refine srcUA_l (fun q ys nw => nw = (pl, listOf pits.toArray pn) :: (I, oI) :: (nt, listOf nits.toArray n'') :: (rowA, listOf its'.toArray n') :: (L' + 1, o₃) :: news ∧ Pairs news ys (pickL ps' ((belowF j ps'.length).take q))) C'.hh F₁₀ N₁₀ (.head _) (by omega) ⟨rfl, by simpa [pickL] using Pairs.nil⟩ ?_ ?_
    · rintro q v Ic oIc Cc oCc Dc m₂ s₁₁ ys nw E' hqq ⟨rfl, hys⟩ hv hC hx r₁₁ F₁₁ N₁₁ off ne
      clear F₁₀ N₁₀
      have hq2 : q < szF j ps'.length := by omega
      obtain ⟨tq, hg⟩ := hpl.get (i := q) (by rw [belowF_length]; exact hq2)
      have hv2 : v = .int (((belowF j ps'.length).getD q 0 : Nat) : Int) tq := by rw [hg] at hv; exact (Option.some.inj hv).symm
      subst hv2
      have hbd := belowF_lt hq2
      walk_at "mine go"
      rename PairAt _ _ _ => py
      refine ⟨_, by walk_at "mine rst", F₁₁, N₁₁, off, .inr ⟨_, .head _, rfl, _, rfl⟩, rfl, ?_⟩
      rw [pickL_take _ _ _ (by rw [belowF_length]; exact hq2)]
      exact Pairs.snoc hys ⟨_, rfl, by simpa using py⟩
    · rintro sm ys nw s₁₁ r₁₁ F₁₁ N₁₁ hsm ⟨rfl, hys⟩
      clear F₁₀ N₁₀
      rw [hpll, ← belowF_length, List.take_length] at hys
      have hyl := hys.1
      rw [pickL_length, belowF_length] at hyl
      walk1
      walk_at "mine g1"
      rename Fr _ _ _ _ => F₁₂
      rename News _ _ _ _ => N₁₂
      rename (∀ p, p ∈ _ → _ < _) => lz
      rename_i za _ _ _ _ _ _
      have hzs : za ≠ sm := Ne.symm (Nat.ne_of_lt (lz _ (.head _)))
      have hsm' : ∀ p ∈ (pl, listOf pits.toArray pn) :: (I, oI) :: (nt, listOf nits.toArray n'') :: (rowA, listOf its'.toArray n') :: (L' + 1, o₃) :: news, p.1 ≠ sm := hsm
      rw [setN_cons hzs, setN_head hsm'] at N₁₂
      have hpz := pair_head N₁₂
      have hysB := Pairs.put (pairs_at N₁₂ hys fun p hp => .tail _ (.tail _ (.tail _ (.tail _ (.tail _ (.tail _ (.tail _ hp))))))) 0 ⟨za, rfl, hpz⟩
      have hPB := pairs_at N₁₂ hP' fun p hp => .tail _ (.tail _ (.tail _ (.tail _ (.tail _ (.tail _ (.tail _ hp))))))
      walk1
      walk_at "mine g1"
      rename PairAt _ _ _ => px
      rename (_ = some (Value.ref _)) => ex
      rename Fr _ _ _ _ => F₁₃
      rename News _ _ _ _ => N₁₃
      simp only [Int.toNat_natCast] at px
      refine heapreplace_call C' F₁₃ N₁₃ (.tail _ (.head _)) hysB px (by simp [pickL_length, belowF_length]; exact hzp) (by simp [pickL_length, belowF_length]; omega) ?_
      intro s₁₄ its₅ a₅ r₁₄ F₁₄ N₁₄ p₅ pa₅ sub₅
      have pn₅ : Pairs news its₅ (someF ps' j) := by
        rw [someF_eq _ hjl] at p₅
        refine p₅.base N₁₃ (fun p hp => .tail _ (.tail _ (.tail _ (.tail _ (.tail _ (.tail _ (.tail _ hp))))))) ?_
        intro v hv
        have h1 := sub₅ v hv
        rw [show Int.toNat 0 = 0 from rfl, List.set_set] at h1
        rcases List.mem_or_eq_of_mem_set h1 with h1 | rfl
        · exact hys.in v h1
        · exact hP'.in _ (List.mem_of_getElem? ex)
      have e0 : ((pickL ps' (belowF j ps'.length)).set 0 (0, -1)).getD 0 (0, 0) = (0, -1) := by
        have : 0 < (pickL ps' (belowF j ps'.length)).length := by rw [pickL_length, belowF_length]; exact hzp
        simp [List.getD_eq_getElem?_getD, this]
      rw [e0] at pa₅
      have pa₆ := PairAt.set (o' := listOf its₅.toArray ys.length) pa₅ N₁₃ (.tail _ (.head _))
      rw [setN_cons hzs, setN_head hsm'] at N₁₄ pa₆
      clear F₁₃ N₁₃ hpz hysB hPB p₅ pa₅ px
      walk_at "mine g1"
      rename Fr _ _ _ _ => F₁₅
      rename News _ _ _ _ => N₁₅
      refine ne_at N₁₅ (pair_at N₁₅ pa₆ (fun p hp => .tail _ hp)) (pair_head N₁₅) (by have := C'.units; omega) ?_
      rw [show (!decide (((0 : Int), (-1 : Int)) = (0, -1))) = false from by decide]
      have N₁₆ := news_tail (news_tail N₁₅)
      clear N₁₅ pa₆
      have hmx := someF_mem hjl
      have hsl := someF_length ps' j
      have hp5l := pn₅.1
      walk_at "mine g1"
      walk1
      have pc₅ := pairs_at N₁₆ pn₅ fun p hp => .tail _ (.tail _ (.tail _ (.tail _ (.tail _ (.tail _ hp)))))
      have hPc := pairs_at N₁₆ hP' fun p hp => .tail _ (.tail _ (.tail _ (.tail _ (.tail _ (.tail _ hp)))))
      have hmx' : ps'.getD ((j : Nat) : Int).toNat (0, 0) ∈ someF ps' j := hmx
      have hnl := hN'.1
      walk1
      walk_at "mine g1"
      rename Fr _ _ _ _ => F₁₇
      rename News _ _ _ _ => N₁₇
      have h1n : sm ≠ nt := Ne.symm (hsm _ (.tail _ (.tail _ (.head _))))
      have h2n : pl ≠ nt := Ne.symm (Nat.ne_of_lt (lpl _ (.tail _ (.head _))))
      have hnrest : ∀ p ∈ (rowA, listOf its'.toArray n') :: (L' + 1, o₃) :: news, p.1 ≠ nt := by
        intro p hp
        rcases List.mem_cons.mp hp with rfl | hp
        · exact Nat.ne_of_lt hnr
        · rcases List.mem_cons.mp hp with rfl | hp
          · exact Nat.ne_of_lt hnc
          · exact Nat.ne_of_lt (ln p hp)
      rw [setN_cons h1n, setN_cons h2n, setN_cons (Ne.symm hIn), setN_head hnrest] at N₁₇
      clear pc₅ hPc
      walk1
      walk_at "mine g1"
      rename Fr _ _ _ _ => F₁₈
      rename News _ _ _ _ => N₁₈
      refine iter_rng F₁₈ N₁₈ (.head _) (by omega) ?_
      intro I2 s₁₉ r₁₉ F₁₉ N₁₉ l₁₉
      clear F₁₈ N₁₈
      have hsr : sm ≠ rowA := Ne.symm (hsm _ (.tail _ (.tail _ (.tail _ (.head _)))))
      have hpr : pl ≠ rowA := Ne.symm (Nat.ne_of_lt (lpl _ (.tail _ (.tail _ (.head _)))))
      have hntr : nt ≠ rowA := Ne.symm (Nat.ne_of_lt hnr)
      have hrrest : ∀ p ∈ (L' + 1, o₃) :: news, p.1 ≠ rowA := by
        intro p hp
        rcases List.mem_cons.mp hp with rfl | hp
        · exact Nat.ne_of_lt hrc
        · exact Nat.ne_of_lt (lr p hp)
      refine for_rng (n := szF j ps'.length)
        (fun q m₂ nx => ∃ itsq n4 nits2 n3, nx = (sm, listOf its₅.toArray ys.length) :: (pl, listOf pits.toArray pn) :: (I, oI) :: (nt, listOf nits2.toArray n3) :: (rowA, listOf itsq.toArray n4) :: (L' + 1, o₃) :: news ∧ Nats nits2 (no ++ [stepJ ps' j]) ∧
          Pairs news itsq (scat ps' (belowF j ps'.length) (someF ps' j) q) ∧ m₂ (Str.ofString "some") = some (.ref sm) ∧ m₂ (Str.ofString "places") = some (.ref pl) ∧ m₂ (Str.ofString "noted") = some (.ref nt))
        C'.hh (N₁₉ _ (.head _)).1 (N₁₉ _ (.head _)).2.2 (fun p hp => Nat.ne_of_lt (l₁₉ p (.tail _ hp))) F₁₉ (news_tail (news_tail N₁₉)) ⟨its', n', _, _, rfl, Nats.append hN' (Nats.cons Nats.nil _ _), hP', rfl, rfl, rfl⟩ ?_ ?_
      · rintro q tq m₂ nx s₂₀ oI2 cI2 r₂₀ hqz ⟨itsq, n4, nits2, n3, rfl, hN2, hPq, e2, e3, e4⟩ hnI2 F₂₀ N₂₀
        have hk : (0 : Int) + (q : Int) * 1 = ((q : Nat) : Int) := by omega
        rw [hk] at F₂₀
        have F₂₁ : Fr g L' s₂₀.heap _ := Fr.pins' [(Str.ofString "some", .ref sm), (Str.ofString "places", .ref pl), (Str.ofString "noted", .ref nt)] F₂₀ (by simp [e2, e3, e4])
        replace N₂₀ : News g L' s₂₀.heap _ := N₂₀
        dsimp only [pinL] at F₂₁
        clear F₁₉ N₁₉ F₂₀
        have hbd := belowF_lt hqz
        have hbl := belowF_length j ps'.length
        have hql := hPq.1
        rw [scat_length] at hql
        show wpAny _ _ _ _ _ _
        k_fold
        walk_at "mine go"
        rename PairAt _ _ _ => py
        rename Fr _ _ _ _ => F₂₂
        rename News _ _ _ _ => N₂₂
        have hI2r : rowA ≠ I2 := hnI2 _ (.tail _ (.tail _ (.tail _ (.tail _ (.head _)))))
        simp only [Int.toNat_natCast] at py N₂₂
        rw [setN_cons (Ne.symm hI2r), setN_cons hsr, setN_cons hpr, setN_cons (Ne.symm hIr), setN_cons hntr, setN_head hrrest] at N₂₂
        exact ⟨_, _, by walk_at "mine rst", F₂₂, N₂₂, off_put (l := [_, _, _, _]) hnI2, _, _, _, _, rfl, hN2, Pairs.put hPq _ ⟨_, rfl, py⟩, rfl, rfl, rfl⟩
      · rintro m₂ nx s₂₀ r₂₀ F₂₀ N₂₀ hnI2 ⟨itsq, n4, nits2, n3, rfl, hN2, hPq, e2, e3, e4⟩
        clear F₁₉ N₁₉
        walk_at "mine go"
        have hjs : ps.length / 2 - i = j + 1 := by omega
        rw [hjs, stepsG] at hst
        refine ⟨m₂, (nt, listOf nits2.toArray n3) :: (rowA, listOf itsq.toArray n4) :: (L' + 1, o₃) :: news, by walk_at "mine rst", F₂₀, news_tail (news_tail N₂₀), ?_, itsq, stepL ps' j, n4, nits2, no ++ [stepJ ps' j], n3, rfl, hPq, by rw [stepL_length]; exact hl', hN2, by simp [hno], by rw [← hst, show ps.length / 2 - (i + 1) = j by omega], e4⟩
        intro p hp
        rcases List.mem_cons.mp hp with rfl | hp
        · exact hIn
        · rcases List.mem_cons.mp hp with rfl | hp
          · exact hIr
          · rcases List.mem_cons.mp hp with rfl | hp
            · exact hIc
            · exact hIw p hp
  · rintro m₁ nx s₇ r₇ F₇ N₇ hnI ⟨its', ps', n', nits, no, n'', rfl, hP', hl', hN', hno, hst, e1⟩
    have F₈ : Fr g L' s₇.heap _ := Fr.pins [(Str.ofString "noted", .ref nt)] F₇ (by simp [e1])
    dsimp only [pinL] at F₈
    replace N₇ : News g L' s₇.heap _ := N₇
    clear F₆ N₆ F₇ lI
    have hnl := hN'.1
    have hrest : ∀ p ∈ (rowA, listOf its'.toArray n') :: (L' + 1, o₃) :: news, p.1 ≠ nt := by
      intro p hp
      rcases List.mem_cons.mp hp with rfl | hp
      · exact Nat.ne_of_lt hnr
      · rcases List.mem_cons.mp hp with rfl | hp
        · exact Nat.ne_of_lt hnc
        · exact Nat.ne_of_lt (ln p hp)
    walk1
    walk_at "mine g1"
    rename Fr _ _ _ _ => F₉
    rename News _ _ _ _ => N₉
    rw [setN_head hrest] at N₉
    walk_at "mine go"
    rename Fr _ _ _ _ => F₁₀
    rename News _ _ _ _ => N₁₀
    rename (∀ p, p ∈ _ → _ < _) => lb
    rw [Nat.sub_self, stepsG] at hst
    have hF : stepsF ps = (ps', no.reverse) := by unfold stepsF; rw [← hst]
    refine back _ _ _ _ F₁₀ N₁₀ fun F N => hq _ _ rowA nt its' nits.reverse n' _ 0 (by walk_at "mine rst") F (news_sub N sub_swap) lr ln (fun p hp => lb p (.tail _ (.tail _ (.tail _ hp)))) (Nat.ne_of_lt hnr) (Ne.symm (Nat.ne_of_lt (lb _ (.tail _ (.head _))))) (Ne.symm (Nat.ne_of_lt (lb _ (.head _)))) (by rw [hF]; exact hP') (by rw [hF]; exact hN'.reverse)

theorem reduce_call : ∀ {w : World} {A : Around} {E : Value → Shared → Prop} {s : Shared} {h₀ : Heap} {L hp rg f : Addr} {k : Nat} {m : Str → Option Value} {news : List (Addr × Obj)} {Q : Value → Shared → Prop} {its : List Value} {ps : List P} {n c : Nat} {d : List Nat} {tr ur vr : Tok}
    (C : Cx w A h₀ L (k + 1)) (F : Fr h₀ L s.heap m) (N : News h₀ L s.heap news) (hm : (hp, listOf its.toArray n) ∈ news) (hr : (rg, rangeObj 0 (c : Nat) 1 tr ur vr) ∈ news) (hfn : ∃ oc od fd sl, (f, (⟨oc, od, .func fd, sl⟩ : Obj)) ∈ news) (hP : Pairs news its ps) (hfit : c < 1000)
    (hf : ∀ {A' : Around} {h₁ : Heap} {L₁ a : Addr} {m₁ : Str → Option Value} {s₁ : Shared} {cur : List (Addr × Obj)} {i : Nat} {t : Tok} {its' : List Value} {n' : Nat} {Q' : Value → Shared → Prop} {E' : Value → Shared → Prop},
      Cx w A' h₁ L₁ k → Fr h₁ L₁ s₁.heap m₁ → News h₁ L₁ s₁.heap cur → (∀ p ∈ news, p ∈ cur) → (a, listOf its'.toArray n') ∈ cur → Pairs news its' (undoK d ps i) → i < c →
      (∀ s' a' its'' n'', rst s' = rst s₁ → Fr h₁ L₁ s'.heap m₁ → News h₁ L₁ s'.heap ((a', listOf its''.toArray n'') :: cur) → (∀ p ∈ cur, p.1 < a') → Pairs news its'' (undoK d ps (i + 1)) → Q' (.ref a') s') →
      wpAny (model Challenge.rw_dn0052_01.row.prog w) A' (call (.ref f) [.ref a, .int (i : Int) t]) Q' E' s₁)
    (hq : ∀ s' a its' n' cur, rst s' = rst s → Fr h₀ L s'.heap m → News h₀ L s'.heap cur → (∀ p ∈ news, p ∈ cur) → (a, listOf its'.toArray n') ∈ cur → Pairs news its' (undoK d ps c) → Q (.ref a) s'),
    wpAny (model Challenge.rw_dn0052_01.row.prog w) A (call (.ref 51) [.ref f, .ref rg, .ref hp]) Q E s := by
  intro w A E s h₀ L hp rg f k m news Q its ps n c d tr ur vr C F N hm hr hfn hP hfit hf hq
  have KX := C.X
  revert KX
  k_fill
  intro KX
  refine enter (binds := [(Str.ofString "function", .ref f), (Str.ofString "sequence", .ref rg), (Str.ofString "initial", .ref hp)]) C F N (by k_is) (by k_is) (BindsTo.of_defaults rfl (C.X.keeps F.keep _ _ (by k_is)) rfl rfl rfl) (locs rfl) rfl rfl rfl (by decide) ?_
  clear F
  intro g L' s₁ Q' r₁ C' F' N' back
  have X' := C'.X
  obtain ⟨p, loose, mean, mg, mb, T'⟩ := C'.T
  simp only [pinL, List.reverse_cons, List.reverse_nil, List.nil_append, List.cons_append] at F'
  walk_at "mine go"
  rename Fr _ _ _ _ => F₂
  rename News _ _ _ _ => N₂
  rename (∀ p, p ∈ _ → _ < _) => lI
  obtain ⟨fc, fo, fd, fs, hfn⟩ := hfn
  with_unfolding_all refine' For_invVF F₂ ?k1 ?k2 ?_
  case k1 => exact rfl
  case k2 => exact rfl
  walk_at "mine go"
  refine iter_it N₂ (.head _) ?_
  refine for_rng (n := c) (news := news) (fun i m₁ nx => ∃ a its' n', (∀ p ∈ news, p ∈ nx) ∧ (a, listOf its'.toArray n') ∈ nx ∧ Pairs news its' (undoK d ps i) ∧ m₁ (Str.ofString "function") = some (.ref f) ∧ m₁ (Str.ofString "value") = some (.ref a))
    C'.hh (N₂ _ (.head _)).1 (N₂ _ (.head _)).2.2 (fun p hp => Nat.ne_of_lt (lI p hp)) F₂ (news_tail N₂) ⟨hp, its, n, fun _ h => h, hm, hP, rfl, rfl⟩ ?_ ?_
  · rintro i t m₁ nx s₃ oI cI r₃ hi ⟨a, its', n', hsub, ha, hP', e1, e2⟩ hnI F₃ N₃
    have hj : (0 : Int) + (i : Int) * 1 = (i : Int) := by omega
    rw [hj] at F₃
    have F₄ := Fr.pins' [(Str.ofString "function", .ref f), (Str.ofString "value", .ref a)] F₃ (by simp [e1, e2])
    dsimp only [pinL] at F₄
    clear F₂ N₂ F₃
    walk_at "mine go"
    refine callWith_F ⟨_, _, _, _, (N₃ _ (.tail _ (hsub _ hfn))).1⟩ ?_
    walk_at "mine go"
    · exact ⟨_, _, _, _, (N₃ _ (.tail _ (hsub _ hfn))).1⟩
    refine hf (cur := (_, oI) :: nx) C' F₄ N₃ (fun p hp => .tail _ (hsub p hp)) (.tail _ ha) hP' hi ?_
    intro s₅ a₅ its₅ n₅ r₅ F₅ N₅ l₅ p₅
    clear F₄ N₃
    walk_at "mine go"
    rename Fr _ _ _ _ => F₆
    rename News _ _ _ _ => N₆
    refine ⟨_, (a₅, listOf its₅.toArray n₅) :: nx, by walk_at "mine rst", F₆, news_sub N₆ ?_, ?_, a₅, its₅, n₅, fun p hp => .tail _ (hsub p hp), .head _, p₅, rfl, rfl⟩
    · intro p hp
      rcases List.mem_cons.mp hp with rfl | hp
      · exact .tail _ (.head _)
      · rcases List.mem_cons.mp hp with rfl | hp
        · exact .head _
        · exact .tail _ (.tail _ hp)
    · intro p hp
      rcases List.mem_cons.mp hp with rfl | hp
      · exact Ne.symm (Nat.ne_of_lt (l₅ _ (.head _)))
      · exact hnI p hp
  · rintro m₁ nx s₃ r₃ F₃ N₃ hnI ⟨a, its', n', hsub, ha, hP', e1, e2⟩
    have F₄ := Fr.pins [(Str.ofString "value", .ref a)] F₃ (by simp [e2])
    dsimp only [pinL] at F₄
    clear F₂ N₂ F₃ lI
    dsimp only
    walk_at "mine go"
    exact back _ _ _ _ F₄ N₃ fun F N => hq _ _ _ _ _ (by walk_at "mine rst") F N hsub ha hP'

theorem enterL {w : World} {A : Around} {E : Value → Shared → Prop} {s : Shared} {h₀ : Heap} {L : Addr} {k : Nat} {m : Str → Option Value} {news : List (Addr × Obj)} {Q : Value → Shared → Prop}
    {name qual : Str} {params : Arguments} {body : Expr} {scope : Scope} {cl : List (Str × Addr)} {pm ctv : Value} {c' f : Addr} {args : List Value} {binds : List (Str × Value)}
    (C : Cx w A h₀ L (k + 1)) (F : Fr h₀ L s.heap m) (N : News h₀ L s.heap news)
    (ho : (f, kla_obj name qual params body scope cl pm c' ctv) ∈ news) (hcd : s.heap.CodeRec (.ref c') qual)
    (hbind : bindArgs (kla_fn name qual params body scope cl pm (.ref c') ctv) ⟨args, []⟩ = pure binds) (hloc : ∀ y ∈ binds, scope.names.lookup y.1 = some .local)
    (hco : scope.isCoroutine = false) (hgen : scope.isGenerator = false) (hk : scope.kind = .function) (hcell : ∀ x ∈ scope.names, x.2 ≠ .cell)
    (h : ∀ g L' s₁ (Q' : Value → Shared → Prop), rst s₁ = rst s → Cx w (A.deeper (envX qual scope L' f (.ref c') cl)) g L' k → Fr g L' s₁.heap (pinL (fun _ => none) binds.reverse) → News g L' s₁.heap news →
      (∀ v s' m' news', Fr g L' s'.heap m' → News g L' s'.heap news' → (Fr h₀ L s'.heap m → News h₀ L s'.heap news' → Q v s') → Q' v s') →
      wpAny (model Challenge.rw_dn0052_01.row.prog w) (A.deeper (envX qual scope L' f (.ref c') cl)) (eval body (envX qual scope L' f (.ref c') cl))
        (fun v s' => Q' v s') (fun _ _ => False) s₁) :
    wpAny (model Challenge.rw_dn0052_01.row.prog w) A (call (.ref f) args) Q E s := by
  obtain ⟨A₀, base, outer, env, B, hA, hf, hke⟩ := C.below
  obtain ⟨p, loose, mean, mg, mb, T⟩ := C.T
  refine wpAny_call (kla_code B F C.X N T hA hf hke ho hcd (by have := C.room; omega) hbind hloc ?_ hco hgen hk hcell)
  intro g L' h₁ FG F' N' B' X' T'
  refine wpAny_mono (h g L' _ (fun v s' => LeaveK h₀ L m g (fun r s' => match r with | .ok (.ret v) => Q v s' | .ok _ => False | .error e => E e s') v s') rfl ⟨⟨_, _, _, _, B', Around.frames_deeper hA, rfl, hk⟩, X', ⟨_, _, _, _, _, T'⟩, ?_, ?_, C.hh⟩ ?_ N' ?_) (fun _ _ x => x) (fun _ _ x => x.elim)
  · have := C.room; show A.depth + 1 + k < _; omega
  · have := C.units; show A.units + 3 + 70 + 4 * k < _; omega
  · have e : pinL (fun _ => none) binds.reverse = fun y => binds.reverse.lookup y := by
      generalize binds.reverse = l
      induction l with
      | nil => rfl
      | cons p r ih =>
        obtain ⟨x, v⟩ := p
        funext y
        unfold pinL
        rw [List.lookup_cons, ih]
        by_cases e : y = x
        · subst e; simp
        · rw [show (y == x) = false from beq_eq_false_iff_ne.mpr e]; simp [e]
    rw [e]
    exact F'
  · intro v s' m' news' a b c
    exact ⟨L', m', news', a, b, c⟩

section
variable {L sc rowA rg : Addr} {rz : Nat} {its : List Value} {n0 : Nat} {pl : List (Addr × Obj)} {vH vD vN : Option Value} {tb tb' : Array Value} {B : List (Addr × Obj)}
theorem LawB.tabs (x : LawB L sc rowA rg rz its n0 pl vH vD vN tb B) : LawB L sc rowA rg rz its n0 pl vH vD vN tb' ((70, tabObj tb') :: B.filter fun p => decide (@Ne Nat p.1 70)) := by
  obtain ⟨f1, f2, f3, f4, f5, f6, f7⟩ := x.fr
  obtain ⟨g1, g2, g3, g4, g5, g6, g7⟩ := x.fg
  have h70 := x.h70
  obtain ⟨hi, hp⟩ := x.plb
  have go : ∀ {a : Addr} {o : Obj}, (a, o) ∈ B → (@Ne Nat a 70) → (a, o) ∈ (70, tabObj tb') :: B.filter fun p => decide (@Ne Nat p.1 70) := fun h1 h2 => .tail _ (List.mem_filter.mpr ⟨h1, decide_eq_true h2⟩)
  exact ⟨go x.row f7, let ⟨t, u, v, h⟩ := x.rng; ⟨t, u, v, go h g7⟩, fun p hq => go (x.pls p hq) (hp.off (.inl (by omega)) p hq),
    let ⟨o, a, b⟩ := x.c1; ⟨o, go a (by omega), b⟩, let ⟨o, a, b⟩ := x.c3; ⟨o, go a (by omega), b⟩, let ⟨o, a, b⟩ := x.c4; ⟨o, go a (by omega), b⟩,
    let ⟨o, a, b⟩ := x.c5; ⟨o, go a (by omega), b⟩, let ⟨o, a, b⟩ := x.c6; ⟨o, go a (by omega), b⟩, .head _, x.fr, x.fg, x.plb, x.h70, np_cons (fun q hq => x.np q (List.mem_filter.mp hq).1) np_tab⟩
end
theorem ne_tab {g h : Heap} {L a : Addr} {news : List (Addr × Obj)} {its : Array Value} {n : Nat} {tb : Array Value} (N : News g L h news) (h1 : (a, listOf its n) ∈ news) (h2 : (70, tabObj tb) ∈ news) : @Ne Nat a 70 := by
  intro e
  have e1 := (N _ h1).1
  have e2 := (N _ h2).1
  dsimp only at e1 e2
  rw [show a = 70 from e, e2] at e1
  injection e1 with e1
  cases e1
theorem off_filter {B : List (Addr × Obj)} : ∀ p ∈ B.filter (fun p => decide (@Ne Nat p.1 70)), @Ne Nat p.1 70 := fun p hp => of_decide_eq_true (List.mem_filter.mp hp).2
theorem np_fields {a : Addr} {o : Obj} {vs : Array Value} (h : o.data = .fields vs) : NoPair (a, o) := by
  intro p t1 t2 k e
  dsimp only at e
  rw [e] at h
  cases h
theorem np_fun {a : Addr} {cls : Value} {fd : FuncData} {od : Option Addr} {sl : Array (Option Value)} : NoPair (a, (⟨cls, od, .func fd, sl⟩ : Obj)) := by
  intro p t1 t2 k e
  cases e

theorem part1 : ∀ {w : World} {A : Around} {E : Value → Shared → Prop} {s : Shared} {g : Heap} {L f sc : Addr} {k : Nat} {Q : Flow → Shared → Prop} {vs : List Value} {ns : List Int} {o1 o2 o3 o4 o5 o6 : Obj}
    (C : Cx w A g L k) (F : Fr g L s.heap (fun _ => none)) (N : News g L s.heap [(L + 1 + 1 + 1 + 1 + 1 + 1, o6), (L + 1 + 1 + 1 + 1 + 1, o5), (L + 1 + 1 + 1 + 1, o4), (L + 1 + 1 + 1, o3), (L + 1 + 1, o2), (L + 1, o1), (70, tabObj #[])])
    (d1 : o1.data = .cell (some (.ref sc))) (d2 : o2.data = .cell none) (d3 : o3.data = .cell none) (hsc : g.IsList sc vs.toArray) (hI : IntsAre vs ns) (hn : ns.length ≤ 63) (h70 : @LT.lt Nat _ 70 L)
    (hq : ∀ s' rowA its n0 pl o2' o3' rg t u v, rst s' = rst s → Fr g L s'.heap (fun y => if y = Str.ofString "inner" then some (.ref rg) else none) →
      News g L s'.heap ((rg, rangeObj 0 (((ns.length + 3) / 2 : Nat) : Int) 1 t u v) :: (rowA, listOf its.toArray n0) :: (L + 1 + 1 + 1 + 1 + 1 + 1, o6) :: (L + 1 + 1 + 1 + 1 + 1, o5) :: (L + 1 + 1 + 1 + 1, o4) :: (L + 1 + 1 + 1, o3') :: (L + 1 + 1, o2') :: (L + 1, o1) :: (70, tabObj #[]) :: pl) →
      o3'.data = .cell (some (.ref rowA)) → (∃ v, o2'.data = .cell v) → Pairs pl its (rowF ns) → PlB (L + 1 + 1 + 1 + 1 + 1 + 1) rg rowA pl → Fresh L rowA → (@LT.lt Nat _ rowA rg) → Fresh L rg →
      wpAny (model Challenge.rw_dn0052_01.row.prog w) A (execs (lawBody.drop 3) (envOfC (Str.ofString "law") lawScope L f (.ref 72))) Q E s'),
    wpAny (model Challenge.rw_dn0052_01.row.prog w) A (execs lawBody (envOfC (Str.ofString "law") lawScope L f (.ref 72))) Q E s := by
  intro w A E s g L f sc k Q vs ns o1 o2 o3 o4 o5 o6 C F N d1 d2 d3 hsc hI hn h70 hq
  have KX := C.X
  revert KX
  k_fill
  intro KX
  generalize hS : lawScope = S at hq ⊢
  conv at hS => lhs; whnf
  generalize hB : lawBody.drop 3 = B at hq
  conv at hB => lhs; whnf
  generalize hB0 : lawBody = B0
  conv at hB0 => lhs; whnf
  subst hS
  subst hB
  subst hB0
  obtain ⟨p, loose, mean, mg, mb, T'⟩ := C.T
  have hvl := hI.length
  walk1
  walk_at "mine g1"
  rename Fr _ _ _ _ => F₂
  rename News _ _ _ _ => N₂
  rename (∀ p, p ∈ _ → _ < _) => l₂
  rename (_ = Data.cell (some _)) => d2'
  rename_i t1 _ t2 _ t3 _ _ _ _ _ va _ _ s₁ o2' r₁
  have hva := ltN (l₂ _ (.tail _ (.tail _ (.head _))))
  dsimp only at hva
  obtain ⟨vals, hvals, N₃⟩ : ∃ vals, IntsAre vals (ns ++ [0, 0, 0]) ∧ News g L s₁.heap ((va, listOf vals.toArray 0) :: (L + 1 + 1 + 1 + 1 + 1 + 1, o6) :: (L + 1 + 1 + 1 + 1 + 1, o5) :: (L + 1 + 1 + 1 + 1, o4) :: (L + 1 + 1 + 1, o3) :: (L + 1 + 1, o2') :: (L + 1, o1) :: [(70, tabObj #[])]) := by
    refine ⟨vs ++ [.int 0 t1, .int 0 t2, .int 0 t3], ?_, news_re N₂ (.tail _ (.tail _ (.tail _ (.tail _ (.tail _ (.tail _ (.tail _ (.head _)))))))) (by walk_at "mine re")⟩
    exact hI.append (.cons 0 _ (.cons 0 _ (.cons 0 _ .nil)))
  have hvl2 : vals.length = ns.length + 3 := by rw [hvals.length]; simp
  clear N₂ l₂
  walk1
  refine wpAny_Assign_Name ?_ (hs := by with_unfolding_all rfl)
  refine LCg.ListComp_U (F₀ := by k_asm) (by with_unfolding_all rfl) (by decide) (by rfl) (by decide) (by rfl) ?_
  walk_at "mine go"
  rename Fr _ _ _ _ => F₄
  rename News _ _ _ _ => N₄
  rename (∀ p, p ∈ _ → _ < _) => l₄
  rename_i r0 s₄ tr ur vr r₄
  have hr0 := ltN (l₄ _ (.tail _ (.head _)))
  dsimp only at hr0
  refine srcU_r (n := ns.length + 3) (fun i ys nw => ∃ pl, nw = pl ++ ((r0, rangeObj 0 ((ns.length + 3 : Nat) : Int) 1 tr ur vr) :: (va, listOf vals.toArray 0) :: (L + 1 + 1 + 1 + 1 + 1 + 1, o6) :: (L + 1 + 1 + 1 + 1 + 1, o5) :: (L + 1 + 1 + 1 + 1, o4) :: (L + 1 + 1 + 1, o3) :: (L + 1 + 1, o2') :: (L + 1, o1) :: [(70, tabObj #[])]) ∧
      Pairs pl ys ((rowF ns).take i) ∧ ∀ p ∈ pl, @LT.lt Nat _ (L + 1 + 1 + 1 + 1 + 1 + 1) p.1) C.hh F₄ N₄ (.head _) (small01 (by omega)) size01 (by omega) ⟨[], rfl, by simpa using Pairs.nil, fun _ h => by cases h⟩ ?_ ?_
  · rintro i ti I oI Cc oC D m₂ s₅ ys nw E' hi ⟨pl, rfl, hys, hpl⟩ hC hx r₅ F₅ N₅ off ne
    clear F₄ N₄
    have hm1 : (L + 1 + 1, o2') ∈ pl ++ ((r0, rangeObj 0 ((ns.length + 3 : Nat) : Int) 1 tr ur vr) :: (va, listOf vals.toArray 0) :: (L + 1 + 1 + 1 + 1 + 1 + 1, o6) :: (L + 1 + 1 + 1 + 1 + 1, o5) :: (L + 1 + 1 + 1 + 1, o4) :: (L + 1 + 1 + 1, o3) :: (L + 1 + 1, o2') :: (L + 1, o1) :: [(70, tabObj #[])]) := List.mem_append_right _ (by walk_at "mine mem")
    have hm2 : (va, listOf vals.toArray 0) ∈ pl ++ ((r0, rangeObj 0 ((ns.length + 3 : Nat) : Int) 1 tr ur vr) :: (va, listOf vals.toArray 0) :: (L + 1 + 1 + 1 + 1 + 1 + 1, o6) :: (L + 1 + 1 + 1 + 1 + 1, o5) :: (L + 1 + 1 + 1 + 1, o4) :: (L + 1 + 1 + 1, o3) :: (L + 1 + 1, o2') :: (L + 1, o1) :: [(70, tabObj #[])]) := List.mem_append_right _ (by walk_at "mine mem")
    rw [show (0 : Int) + (i : Int) = ((i : Nat) : Int) by omega] at hx
    walk_at "mine go"
    rename Fr _ _ _ _ => F₆
    rename News _ _ _ _ => N₆
    rename (∀ p, p ∈ _ → _ < _) => l₆
    rename_i tv pb s₆ r₆
    refine ⟨(pb, tupObj [.int ((ns ++ [0, 0, 0]).getD i 0) tv, .int ((i : Nat) : Int) ti] 0) :: (pl ++ _), by walk_at "mine rst", F₆, news_sub N₆ sub_in3, ⟨⟨Ne.symm (Nat.ne_of_lt (l₆ _ (.head _))), Ne.symm (Nat.ne_of_lt (l₆ _ (.tail _ (.head _)))), Ne.symm (Nat.ne_of_lt (l₆ _ (.tail _ (.tail _ (.head _)))))⟩, off⟩, trivial, (pb, tupObj [.int ((ns ++ [0, 0, 0]).getD i 0) tv, .int ((i : Nat) : Int) ti] 0) :: pl, rfl, ?_, ?_⟩
    · rw [rowF_take hi]
      exact Pairs.snoc hys.tail ⟨pb, rfl, tv, ti, 0, .head _⟩
    · exact List.forall_mem_cons.mpr ⟨l₆ (L + 1 + 1 + 1 + 1 + 1 + 1, o6) (.tail _ (.tail _ (.tail _ (List.mem_append_right _ (.tail _ (.tail _ (.head _))))))), hpl⟩
  · rintro rowA ys nw s₅ r₅ F₅ N₅ hD ⟨pl, rfl, hys, hpl⟩
    clear F₄ N₄
    have hl3 := rowF_length ns
    rw [← hl3, List.take_length] at hys
    have hyl : ys.length = ns.length + 3 := by rw [hys.1, hl3]
    have N₆ : News g L s₅.heap ((rowA, listOf ys.toArray ys.length) :: (L + 1 + 1 + 1 + 1 + 1 + 1, o6) :: (L + 1 + 1 + 1 + 1 + 1, o5) :: (L + 1 + 1 + 1 + 1, o4) :: (L + 1 + 1 + 1, o3) :: (L + 1 + 1, o2') :: (L + 1, o1) :: (70, tabObj #[]) :: pl) := news_swap (c := [_, _, _, _, _, _, _]) N₅ (by walk_at "mine sub")
    have hfr : Fresh L rowA := ⟨Ne.symm (hD _ (List.mem_append_right _ (by walk_at "mine mem") : (L + 1, o1) ∈ _)), Ne.symm (hD _ (List.mem_append_right _ (by walk_at "mine mem") : (L + 1 + 1, o2') ∈ _)), Ne.symm (hD _ (List.mem_append_right _ (by walk_at "mine mem") : (L + 1 + 1 + 1, o3) ∈ _)), Ne.symm (hD _ (List.mem_append_right _ (by walk_at "mine mem") : (L + 1 + 1 + 1 + 1, o4) ∈ _)), Ne.symm (hD _ (List.mem_append_right _ (by walk_at "mine mem") : (L + 1 + 1 + 1 + 1 + 1, o5) ∈ _)), Ne.symm (hD _ (List.mem_append_right _ (by walk_at "mine mem") : (L + 1 + 1 + 1 + 1 + 1 + 1, o6) ∈ _)), Ne.symm (hD _ (List.mem_append_right _ (by walk_at "mine mem") : (70, tabObj #[]) ∈ _))⟩
    have hfr' := hfr
    obtain ⟨f1, f2, f3, f4, f5, f6, f7⟩ := hfr'
    clear N₅
    walk_at "mine g1"
    rename Fr _ _ _ _ => F₇
    rename News _ _ _ _ => N₇
    rename (_ = Data.cell (some (Value.ref rowA))) => d3'
    rename_i s₇ o3' r₇
    have hpo : ∀ p ∈ pl, p.1 ≠ L + 1 + 1 + 1 := by
      intro p hp e
      have := hpl p hp
      have e' : @Eq Nat p.1 (L + 1 + 1 + 1) := e
      omega
    have N₈ : News g L s₇.heap ((rowA, listOf ys.toArray ys.length) :: (L + 1 + 1 + 1 + 1 + 1 + 1, o6) :: (L + 1 + 1 + 1 + 1 + 1, o5) :: (L + 1 + 1 + 1 + 1, o4) :: (L + 1 + 1 + 1, o3') :: (L + 1 + 1, o2') :: (L + 1, o1) :: (70, tabObj #[]) :: pl) := by
      refine news_eq N₇ ?_
      refine setN_c (by omega) (setN_c (by omega) (setN_c (by omega) (setN_c (by omega) (setN_head ?_))))
      exact List.forall_mem_cons.mpr ⟨by walk_at "mine ne", List.forall_mem_cons.mpr ⟨by walk_at "mine ne", List.forall_mem_cons.mpr ⟨by walk_at "mine ne", hpo⟩⟩⟩
    clear N₇
    walk1
    walk_at "mine g1"
    rename Fr _ _ _ _ => F₉
    rename News _ _ _ _ => N₉
    rename (∀ p, p ∈ _ → _ < _) => l₉
    refine hq _ _ _ _ _ _ _ _ _ _ _ (by walk_at "mine rst") F₉ N₉ d3' ⟨_, d2'⟩ hys ?_ hfr (l₉ _ (.head _)) ⟨Ne.symm (Nat.ne_of_lt (l₉ (L + 1, o1) (by walk_at "mine mem"))), Ne.symm (Nat.ne_of_lt (l₉ (L + 1 + 1, o2') (by walk_at "mine mem"))), Ne.symm (Nat.ne_of_lt (l₉ (L + 1 + 1 + 1, o3') (by walk_at "mine mem"))), Ne.symm (Nat.ne_of_lt (l₉ (L + 1 + 1 + 1 + 1, o4) (by walk_at "mine mem"))), Ne.symm (Nat.ne_of_lt (l₉ (L + 1 + 1 + 1 + 1 + 1, o5) (by walk_at "mine mem"))), Ne.symm (Nat.ne_of_lt (l₉ (L + 1 + 1 + 1 + 1 + 1 + 1, o6) (by walk_at "mine mem"))), Ne.symm (Nat.ne_of_lt (l₉ (70, tabObj #[]) (by walk_at "mine mem")))⟩
    intro p hp
    exact ⟨hpl p hp, l₉ _ (.tail _ (.tail _ (.tail _ (.tail _ (.tail _ (.tail _ (.tail _ (.tail _ hp)))))))), hD p (List.mem_append_left _ hp)⟩

theorem part2 : ∀ {w : World} {A : Around} {s : Shared} {g : Heap} {L f rowA rg : Addr} {k : Nat} {m : Str → Option Value} {Q : Flow → Shared → Prop} {its : List Value} {ps : List P} {pl B : List (Addr × Obj)} {n0 : Nat} {o3 : Obj}
    (C : Cx w A g L (k + 1 + 1 + 1)) (F : Fr g L s.heap m) (hm : m (Str.ofString "inner") = some (.ref rg)) (N : News g L s.heap B)
    (hrow : (rowA, listOf its.toArray n0) ∈ B) (h3 : (L + 1 + 1 + 1, o3) ∈ B) (hpB : ∀ p ∈ pl, p ∈ B)
    (d3 : o3.data = .cell (some (.ref rowA))) (hP : Pairs pl its ps) (h2 : 2 ≤ ps.length) (hfit : ps.length < 1000)
    (hq : ∀ s' m', rst s' = rst s → Fr g L s'.heap m' → m' (Str.ofString "inner") = some (.ref rg) → News g L s'.heap B →
      wpAny (model Challenge.rw_dn0052_01.row.prog w) A (execs (lawBody.drop 4) (envOfC (Str.ofString "law") lawScope L f (.ref 72))) Q (fun _ _ => False) s'),
    wpAny (model Challenge.rw_dn0052_01.row.prog w) A (execs (lawBody.drop 3) (envOfC (Str.ofString "law") lawScope L f (.ref 72))) Q (fun _ _ => False) s := by
  intro w A s g L f rowA rg k m Q its ps pl B n0 o3 C F hm N hrow h3 hpB d3 hP h2 hfit hq
  have KX := C.X
  revert KX
  k_fill
  intro KX
  generalize hS : lawScope = S at hq ⊢
  conv at hS => lhs; whnf
  generalize hB : lawBody.drop 4 = B4 at hq
  conv at hB => lhs; whnf
  generalize hB0 : lawBody.drop 3 = B3
  conv at hB0 => lhs; whnf
  subst hS
  subst hB
  subst hB0
  obtain ⟨p, loose, mean, mg, mb, T'⟩ := C.T
  have hlen := hP.1
  obtain ⟨v1, v2, vr, hv⟩ : ∃ v1 v2 vr, its = v1 :: v2 :: vr := by
    match its, hlen with
    | [], h => simp at h; omega
    | [_], h => simp at h; omega
    | a :: b :: r, _ => exact ⟨a, b, r, rfl⟩
  have F₁ := Fr.pins [(Str.ofString "inner", .ref rg)] F (by simp [hm])
  dsimp only [pinL] at F₁
  clear F
  walk1
  with_unfolding_all refine' For_invVF F₁ ?k1 ?k2 ?_
  case k1 => exact rfl
  case k2 => exact rfl
  walk_at "mine go"
  rename Fr _ _ _ _ => F₂
  rename News _ _ _ _ => N₂
  rename (∀ p, p ∈ _ → _ < _) => la
  rename_i f0 _ _ l0 _ _ f1 _ _ l1 _ _ f2 _ _ l2 _ _ _ _ f3 _ _ l3 ax s₂ r₂
  refine iter_lst F₂ N₂ (.head _) ?_
  intro I s₃ r₃ F₃ N₃ lI
  obtain ⟨p1, p2, pr, hps⟩ : ∃ p1 p2 pr, ps = p1 :: p2 :: pr := by
    match ps, h2 with
    | [], h => simp at h
    | [_], h => simp at h
    | a :: b :: r, _ => exact ⟨a, b, r, rfl⟩
  have hfl : ∀ d ∈ [f0, f1, f2, f3], ∀ p ∈ (ax, listOf (List.toArray [.ref f0, .ref f1, .ref f2, .ref f3]) 0) :: B, p.1 ≠ d := by
    have a0 := ltN (la _ (.tail _ (.tail _ (.tail _ (.head _)))))
    have a1 := ltN (la _ (.tail _ (.tail _ (.head _))))
    have a2 := ltN (la _ (.tail _ (.head _)))
    have a3 := ltN (la _ (.head _))
    dsimp only at a0 a1 a2 a3
    intro d hd p hp
    simp only [List.mem_cons, List.not_mem_nil, or_false] at hd
    rcases List.mem_cons.mp hp with h9 | h9
    · rw [h9]
      refine neN ?_
      dsimp only
      rcases hd with rfl | rfl | rfl | rfl <;> omega
    · clear hp
      rcases hd with rfl | rfl | rfl | rfl
      · exact Nat.ne_of_lt (l0 p h9)
      · exact Nat.ne_of_lt (l1 p (.tail _ h9))
      · exact Nat.ne_of_lt (l2 p (.tail _ (.tail _ h9)))
      · exact Nat.ne_of_lt (l3 p (.tail _ (.tail _ (.tail _ h9))))
  refine for_lst (its := [.ref f0, .ref f1, .ref f2, .ref f3]) (k := 0) (fun i m₁ nx => (∀ p ∈ (ax, listOf (List.toArray [.ref f0, .ref f1, .ref f2, .ref f3]) 0) :: B, p ∈ nx) ∧
      (∀ d ∈ [f0, f1, f2, f3], ∃ is q c, (d, listOf (List.toArray is) c) ∈ nx ∧ Pairs pl is q ∧ q.length ≤ 2) ∧ m₁ (Str.ofString "inner") = some (.ref rg))
    C.hh (N₃ _ (.head _)).1 (N₃ _ (.head _)).2.2 (fun p hp => Nat.ne_of_lt (lI p hp)) F₃ (news_tail N₃) ⟨?_, ?_, rfl⟩ ?_ ?_ ?_
  · exact List.forall_mem_cons.mpr ⟨.head _, fun p hp => .tail _ (.tail _ (.tail _ (.tail _ (.tail _ hp))))⟩
  · intro d hd
    simp only [List.mem_cons, List.not_mem_nil, or_false] at hd
    rcases hd with rfl | rfl | rfl | rfl
    · exact ⟨[], [], _, .tail _ (.tail _ (.tail _ (.tail _ (.head _)))), Pairs.nil, by simp⟩
    · exact ⟨its.take 1, ps.take 1, _, .tail _ (.tail _ (.tail _ (.head _))), hP.take 1, by simp; omega⟩
    · exact ⟨its.take 2, ps.take 2, _, .tail _ (.tail _ (.head _)), hP.take 2, by simp; omega⟩
    · refine ⟨[v2, v1], [p2, p1], _, .tail _ (.head _), ?_, by simp⟩
      rw [hv, hps] at hP
      exact Pairs.cons hP.cons_inv.2.cons_inv.1 (Pairs.cons hP.cons_inv.1 Pairs.nil)
  · intro i m₁ nx hJ
    exact hJ.1 _ (.head _)
  · rintro i vv m₁ nx s₄ oI cI r₄ hi ⟨hBB, hF4, e1⟩ hnI F₄ N₄
    clear F₂ N₂ F₃ N₃
    obtain ⟨d, rfl, hd⟩ : ∃ d, vv = .ref d ∧ d ∈ [f0, f1, f2, f3] := by
      have := List.mem_of_getElem? hi
      simp only [List.mem_cons, List.not_mem_nil, or_false] at this ⊢
      rcases this with h | h | h | h
      · exact ⟨f0, h, .inl rfl⟩
      · exact ⟨f1, h, .inr (.inl rfl)⟩
      · exact ⟨f2, h, .inr (.inr (.inl rfl))⟩
      · exact ⟨f3, h, .inr (.inr (.inr rfl))⟩
    obtain ⟨is, q, c, hdm, hq', hq2⟩ := hF4 d hd
    have F₅ : Fr g L s₄.heap _ := Fr.pins' [(Str.ofString "inner", .ref rg)] F₄ (by simp [e1])
    dsimp only [pinL] at F₅
    replace N₄ : News g L s₄.heap _ := N₄
    have hIl := hq'.1
    have hdI : d ≠ I := hnI _ hdm
    walk_at "mine go"
    have hplc : ∀ p ∈ pl, p ∈ (I, oI) :: nx := fun p hp => .tail _ (hBB p (.tail _ (hpB p hp)))
    refine heapify_call C F₅ N₄ (.tail _ hdm) (hq'.mono hplc) (by omega) ?_
    intro s₆ its₆ r₆ F₆ N₆ p₆ sub₆
    have p₇ : Pairs pl its₆ (heapF q) := p₆.base N₄ hplc (fun v hv => hq'.in v (sub₆ v hv))
    rw [setN_cons (Ne.symm hdI)] at N₆
    clear F₅ N₄ F₄
    walk_at "mine go"
    have hl6 : its₆.length ≤ 2 := by rw [p₇.1, heapF_length]; exact hq2
    have hBs : ∀ p ∈ (ax, listOf (List.toArray [.ref f0, .ref f1, .ref f2, .ref f3]) 0) :: B, p ∈ setN nx d (listOf its₆.toArray c) := fun p hp => mem_setN_ne (hBB p hp) (hfl d hd p hp)
    have hps6 : ∀ p ∈ pl, p ∈ (I, oI) :: setN nx d (listOf its₆.toArray c) := fun p hp => .tail _ (hBs p (.tail _ (hpB p hp)))
    have key : ∀ (Q9 : Value → Shared → Prop) (E9 : Value → Shared → Prop), (∀ D' s' n', rst s' = rst s₆ → Fr g L s'.heap (fun y => if y = Str.ofString "few" then some (.ref d) else if y = Str.ofString "inner" then some (.ref rg) else m₁ y) → News g L s'.heap ((D', listOf its₆.toArray n') :: (I, oI) :: setN nx d (listOf its₆.toArray c)) → (∀ p ∈ (I, oI) :: setN nx d (listOf its₆.toArray c), p.1 < D') → Q9 (.ref D') s') →
        wpAny (model Challenge.rw_dn0052_01.row.prog w) A (call (.builtin "sorted") [.ref d]) Q9 E9 s₆ := by
      intro Q9 E9 h9
      by_cases hs : its₆.length < 2
      · exact sorted_few F₆ N₆ (.tail _ (mem_setN_self hdm)) hs h9
      · obtain ⟨w1, w2, hw⟩ : ∃ w1 w2, its₆ = [w1, w2] := by
          match its₆, hl6, hs with
          | [], _, h => simp at h
          | [_], _, h => simp at h
          | [a, b], _, _ => exact ⟨a, b, rfl⟩
          | _ :: _ :: _ :: _, h, _ => simp at h
        subst hw
        have hl7 : (heapF q).length = 2 := by rw [← p₇.1]; rfl
        obtain ⟨x1, x2, hx⟩ : ∃ x1 x2, heapF q = [x1, x2] := by
          match heapF q, hl7 with
          | [a, b], _ => exact ⟨a, b, rfl⟩
        have hh := heap_ok (l := q) 1 (by omega) (by rw [heapF_length] at hl7; omega)
        rw [hx] at hh p₇
        have p8 := p₇.mono hps6
        obtain ⟨⟨a1, rfl, pa1⟩, p9⟩ := p8.cons_inv
        obtain ⟨⟨a2, rfl, pa2⟩, -⟩ := p9.cons_inv
        exact sorted_two F₆ N₆ (.tail _ (mem_setN_self hdm)) pa1 pa2 hh h9
    refine key _ _ ?_
    intro D' s₇ n₇ r₇ F₇ N₇ l₇
    clear F₆ N₆ key
    have p8 := p₇.mono (fun p hp => (.tail _ (hps6 p hp) : p ∈ (D', listOf its₆.toArray n₇) :: (I, oI) :: setN nx d (listOf its₆.toArray c)))
    refine row_ne N₇ (.tail _ (.tail _ (mem_setN_self hdm))) (.head _) p8 p8 (by have := C.units; omega) ?_
    walk_at "mine go"
    refine ⟨_, setN nx d (listOf its₆.toArray c), by walk_at "mine rst", F₇, news_tail N₇, setN_adr (R := fun z => z ≠ I) hnI, hBs, ?_, rfl⟩
    intro d' hd'
    by_cases e : d' = d
    · subst e
      exact ⟨its₆, heapF q, c, mem_setN_self hdm, p₇, by rw [heapF_length]; exact hq2⟩
    · obtain ⟨is', q', c', h1', h2', h3'⟩ := hF4 d' hd'
      exact ⟨is', q', c', mem_setN_ne h1' e, h2', h3'⟩
  · rintro m₁ nx s₄ r₄ F₄ N₄ hnI ⟨hBB, hF4, e1⟩
    exact hq _ _ (by walk_at "mine rst") F₄ e1 (news_sub N₄ fun p hp => hBB p (.tail _ hp))

theorem part3 : ∀ {w : World} {A : Around} {s : Shared} {g : Heap} {L f sc rowA rg : Addr} {k rz n0 : Nat} {m : Str → Option Value} {Q : Flow → Shared → Prop} {its : List Value} {ps : List P} {pl B : List (Addr × Obj)} {vH vD vN : Option Value} {tb : Array Value}
    (C : Cx w A g L (k + 1 + 1 + 1)) (F : Fr g L s.heap m) (hm : m (Str.ofString "inner") = some (.ref rg)) (N : News g L s.heap B) (hB : LawB L sc rowA rg rz its n0 pl vH vD vN tb B)
    (hP : Pairs pl its ps) (h2 : 2 ≤ ps.length) (hfit : ps.length < 900)
    (hq : ∀ s' m' B' hpA hits c, rst s' = rst s → Fr g L s'.heap m' → m' (Str.ofString "inner") = some (.ref rg) → News g L s'.heap ((hpA, listOf (List.toArray hits) c) :: B') → LawB L sc rowA rg rz its n0 pl (some (.ref hpA)) vD vN tb B' →
      (∀ p ∈ B', p.1 ≠ hpA) → Pairs pl hits (heapF ps) →
      wpAny (model Challenge.rw_dn0052_01.row.prog w) A (execs (lawBody.drop 7) (envOfC (Str.ofString "law") lawScope L f (.ref 72))) Q (fun _ _ => False) s'),
    wpAny (model Challenge.rw_dn0052_01.row.prog w) A (execs (lawBody.drop 4) (envOfC (Str.ofString "law") lawScope L f (.ref 72))) Q (fun _ _ => False) s := by
  intro w A s g L f sc rowA rg k rz n0 m Q its ps pl B vH vD vN tb C F hm N hB hP h2 hfit hq
  have KX := C.X
  revert KX
  k_fill
  intro KX
  generalize hS : lawScope = S at hq ⊢
  conv at hS => lhs; whnf
  generalize hB7 : lawBody.drop 7 = B7 at hq
  conv at hB7 => lhs; whnf
  generalize hB4 : lawBody.drop 4 = B4
  conv at hB4 => lhs; whnf
  subst hS
  subst hB7
  subst hB4
  obtain ⟨p, loose, mean, mg, mb, T'⟩ := C.T
  have hlen := hP.1
  have F₁ := Fr.pins [(Str.ofString "inner", .ref rg)] F (by simp [hm])
  dsimp only [pinL] at F₁
  clear F
  obtain ⟨o3, m3, d3⟩ := hB.c3
  obtain ⟨o4, m4, d4⟩ := hB.c4
  have mr := hB.row
  walk1
  walk_at "mine g1"
  rename Fr _ _ _ _ => F₂
  rename News _ _ _ _ => N₂
  rename (∀ p, p ∈ _ → _ < _) => l₂
  rename (_ = Data.cell (some (Value.ref _))) => d4'
  rename_i hpA _ c _ s₂ o4' r₂
  have hh4 : @Ne Nat hpA (L + 1 + 1 + 1 + 1) := Ne.symm (Nat.ne_of_lt (l₂ _ m4))
  rw [setN_cons hh4] at N₂
  have hB₂ := hB.set4 (o' := o4') (v := some (.ref hpA)) d4'
  have hoff : ∀ p ∈ setN B (L + 1 + 1 + 1 + 1) o4', p.1 ≠ hpA := setN_adr (R := fun z => z ≠ hpA) (fun p hp => Nat.ne_of_lt (l₂ p hp))
  clear m3 d3 m4 d4 mr hh4 d4' l₂ hB
  generalize setN B (L + 1 + 1 + 1 + 1) o4' = B₂ at *
  obtain ⟨o4₂, m4, d4⟩ := hB₂.c4
  walk1
  walk_at "mine g1"
  have hplc : ∀ p ∈ pl, p ∈ (hpA, listOf its.toArray c) :: B₂ := fun p hp => .tail _ (hB₂.pls p hp)
  refine heapify_call C F₂ N₂ (.head _) (hP.mono hplc) (by omega) ?_
  intro s₆ hits r₆ F₆ N₆ p₆ sub₆
  have p₇ : Pairs pl hits (heapF ps) := p₆.base N₂ hplc (fun v hv => hP.in v (sub₆ v hv))
  rw [setN_head hoff] at N₆
  clear F₂ N₂ p₆ sub₆ hplc
  have hl7 : hits.length = ps.length := by rw [p₇.1, heapF_length]
  walk_at "mine g1"
  walk1
  walk_at "mine g1"
  refine LCt.ListComp_T (F₀ := by k_asm) (by with_unfolding_all rfl) (by decide) (by rfl) (by decide) (by rfl) ?_
  walk_at "mine go"
  rename Fr _ _ _ _ => F₈
  rename News _ _ _ _ => N₈
  rename (∀ p, p ∈ _ → _ < _) => l₈
  rename_i rk s₈ t8 u8 v8 r₈
  refine srcT_r (n := ps.length - 1) (fun i ys nw => ys = [] ∧ nw = (rk, rangeObj 1 ((ps.length : Nat) : Int) 1 t8 u8 v8) :: (hpA, listOf hits.toArray c) :: B₂) C.hh F₈ N₈ (.head _) (small11 (by omega) (by omega)) (size11 (by omega)) (by omega) ⟨rfl, rfl⟩ ?_ ?_
  · rintro i ti I oI Cc oC D m₂ s₉ ys nw E' hi ⟨rfl, rfl⟩ hC hx r₉ F₉ N₉ off ne
    clear F₈ N₈
    rw [show (1 : Int) + (i : Int) = ((i + 1 : Nat) : Int) by omega] at hx
    have hh := heap_ok (l := ps) (i + 1) (by omega) (by omega)
    have hfl := heapF_length ps
    walk_at "mine go"
    rename_i a1 e1 p1 _ _ _ _ _ _ _ _ a2 e2 p2
    have hpl9 : ∀ p ∈ pl, p ∈ (I, oI) :: (Cc, oC) :: (D, LCg.lst []) :: (rk, rangeObj 1 ((ps.length : Nat) : Int) 1 t8 u8 v8) :: (hpA, listOf hits.toArray c) :: B₂ := fun p hp => .tail _ (.tail _ (.tail _ (.tail _ (.tail _ (hB₂.pls p hp)))))
    refine lt_at N₉ (p1.mono hpl9) (p2.mono hpl9) (by have := C.units; omega) ?_
    rw [show ((i + 1 : Nat) : Int).toNat = i + 1 by omega, show ((((i + 1 : Nat) : Int) - 1) / 2).toNat = (i + 1 - 1) / 2 by omega, hh]
    walk_at "mine go"
    exact ⟨_, by walk_at "mine rst", F₉, N₉, off, trivial, rfl, rfl⟩
  · rintro D ys nw s₉ r₉ F₉ N₉ hD ⟨rfl, rfl⟩
    clear F₈ N₈
    walk_at "mine g1"
    rename Fr _ _ _ _ => F₁₀
    rename News _ _ _ _ => N₁₀
    refine row_ne (vs := []) (us := []) (ps := []) N₁₀ (.tail _ (.head _)) (.head _) Pairs.nil Pairs.nil (by have := C.units; omega) ?_
    walk_at "mine g1"
    walk1
    walk_at "mine g1"
    exact hq _ _ _ hpA hits c (by walk_at "mine rst") F₁₀ rfl (news_sub N₁₀ fun p hp => .tail _ (.tail _ (.tail _ hp))) hB₂ hoff p₇

theorem part4 : ∀ {w : World} {A : Around} {s : Shared} {g : Heap} {L f sc rowA rg hpA : Addr} {k rz n0 c : Nat} {m : Str → Option Value} {Q : Flow → Shared → Prop} {its hits : List Value} {ps : List P} {pl B : List (Addr × Obj)} {vD vN : Option Value} {tb : Array Value}
    (C : Cx w A g L (k + 1 + 1 + 1 + 1)) (F : Fr g L s.heap m) (hm : m (Str.ofString "inner") = some (.ref rg)) (N : News g L s.heap ((hpA, listOf hits.toArray c) :: B)) (hB : LawB L sc rowA rg rz its n0 pl (some (.ref hpA)) vD vN tb B)
    (hoff : ∀ p ∈ B, p.1 ≠ hpA) (hP : Pairs pl its ps) (hH : Pairs pl hits (heapF ps)) (hI : Inj ps) (h2 : 2 ≤ ps.length) (hfit : ps.length < 900) (hrz : rz = ps.length / 2)
    (hq : ∀ s' m' B' stA ntA sits nits c1 c2, rst s' = rst s → Fr g L s'.heap m' → m' (Str.ofString "inner") = some (.ref rg) → m' (Str.ofString "steps") = some (.ref stA) → News g L s'.heap ((hpA, listOf hits.toArray c) :: (stA, listOf (List.toArray sits) c1) :: (ntA, listOf (List.toArray nits) c2) :: B') →
      LawB L sc rowA rg rz its n0 pl (some (.ref hpA)) vD (some (.ref ntA)) tb B' → (∀ p ∈ B', p.1 ≠ hpA) → Pairs pl sits (heapF ps) → Nats nits (ntL ps (ps.length / 2)) →
      wpAny (model Challenge.rw_dn0052_01.row.prog w) A (execs (lawBody.drop 8) (envOfC (Str.ofString "law") lawScope L f (.ref 72))) Q (fun _ _ => False) s'),
    wpAny (model Challenge.rw_dn0052_01.row.prog w) A (execs (lawBody.drop 7) (envOfC (Str.ofString "law") lawScope L f (.ref 72))) Q (fun _ _ => False) s := by
  intro w A s g L f sc rowA rg hpA k rz n0 c m Q its hits ps pl B vD vN tb C F hm N hB hoff hP hH hI h2 hfit hrz hq
  have KX := C.X
  revert KX
  k_fill
  intro KX
  generalize hS : lawScope = S at hq ⊢
  conv at hS => lhs; whnf
  generalize hB8 : lawBody.drop 8 = B8 at hq
  conv at hB8 => lhs; whnf
  generalize hB7 : lawBody.drop 7 = B7
  conv at hB7 => lhs; whnf
  subst hS
  subst hB8
  subst hB7
  obtain ⟨p, loose, mean, mg, mb, T'⟩ := C.T
  have hlen := hP.1
  have F₁ := Fr.pins [(Str.ofString "inner", .ref rg)] F (by simp [hm])
  dsimp only [pinL] at F₁
  clear F
  obtain ⟨o3, m3, d3⟩ := hB.c3
  walk1
  walk_at "mine g1"
  have hplc : ∀ p ∈ pl, p ∈ (hpA, listOf hits.toArray c) :: B := fun p hp => .tail _ (hB.pls p hp)
  refine steps_call C F₁ N (.tail _ hB.row) (hP.mono hplc) (by omega) (by omega) ?_
  intro s₂ ta stA ntA sits nits c1 c2 c3 r₂ F₂ N₂ l1 l2 l3 e1 e2 e3 p₂ n₂
  clear F₁ N
  walk_at "mine g1"
  refine' unpackN_ F₂ N₂ ⟨_, (N₂ _ (.head _)).1, rfl, _, rfl⟩ ?k4 ?k5 ?k6 ?_
  case k4 => exact C.hh
  case k5 => exact rfl
  case k6 => exact rfl
  intro h₃ F₃ N₃
  obtain ⟨o6, m6, d6⟩ := hB.c6
  walk_at "mine g1"
  rename Fr _ _ _ _ => F₄
  rename News _ _ _ _ => N₄
  rename (_ = Data.cell (some (Value.ref ntA))) => d6'
  have m6' : (L + 1 + 1 + 1 + 1 + 1 + 1, o6) ∈ (hpA, listOf hits.toArray c) :: B := .tail _ m6
  rw [setN_cons (Ne.symm (Nat.ne_of_lt (l3 _ m6'))), setN_cons (Ne.symm (Nat.ne_of_lt (l1 _ m6'))), setN_cons (Ne.symm (Nat.ne_of_lt (l2 _ m6'))), setN_cons (Ne.symm (hoff _ m6))] at N₄
  have hst := steps_ok hI
  rw [hst] at p₂ n₂
  refine hq _ _ _ stA ntA sits nits c1 c2 (by walk_at "mine rst") F₄ rfl rfl (news_sub N₄ ?_) (hB.set6 d6') (setN_adr (R := fun z => z ≠ hpA) hoff) (p₂.onto (np_cons hB.np np_list)) n₂
  intro p hp
  simp only [List.mem_cons] at hp ⊢
  rcases hp with h | h | h | h
  · exact .inr (.inr (.inr (.inl h)))
  · exact .inr (.inl h)
  · exact .inr (.inr (.inl h))
  · exact .inr (.inr (.inr (.inr h)))

theorem part5 : ∀ {w : World} {A : Around} {s : Shared} {g : Heap} {L f sc rowA rg hpA stA ntA : Addr} {k rz n0 c c1 c2 : Nat} {m : Str → Option Value} {Q : Flow → Shared → Prop} {its hits sits nits : List Value} {ps : List P} {pl B : List (Addr × Obj)} {vD : Option Value}
    (C : Cx w A g L (k + 1 + 1 + 1 + 1)) (hC : CodeHd g 72 70) (F : Fr g L s.heap m) (hm : m (Str.ofString "inner") = some (.ref rg)) (hms : m (Str.ofString "steps") = some (.ref stA)) (N : News g L s.heap ((hpA, listOf hits.toArray c) :: (stA, listOf sits.toArray c1) :: (ntA, listOf nits.toArray c2) :: B)) (hB : LawB L sc rowA rg rz its n0 pl (some (.ref hpA)) vD (some (.ref ntA)) #[] B)
    (hoff : ∀ p ∈ B, p.1 ≠ hpA) (hP : Pairs pl its ps) (hH : Pairs pl hits (heapF ps)) (hSt : Pairs pl sits (heapF ps)) (hNt : Nats nits (ntL ps (ps.length / 2))) (hI : Inj ps) (h2 : 2 ≤ ps.length) (hfit : ps.length < 900) (hrz : rz = ps.length / 2)
    (hq : ∀ s' m' B' c', rst s' = rst s → Fr g L s'.heap m' → m' (Str.ofString "inner") = some (.ref rg) → News g L s'.heap ((hpA, listOf hits.toArray c) :: B') →
      LawB L sc rowA rg rz its n0 pl (some (.ref hpA)) vD (some (.ref ntA)) (#[] ++ #[rawInt 94, rawInt 31, .ref c']) B' → (∀ p ∈ B', p.1 ≠ hpA) →
      wpAny (model Challenge.rw_dn0052_01.row.prog w) A (execs (lawBody.drop 9) (envOfC (Str.ofString "law") lawScope L f (.ref 72))) Q (fun _ _ => False) s'),
    wpAny (model Challenge.rw_dn0052_01.row.prog w) A (execs (lawBody.drop 8) (envOfC (Str.ofString "law") lawScope L f (.ref 72))) Q (fun _ _ => False) s := by
  intro w A s g L f sc rowA rg hpA stA ntA k rz n0 c c1 c2 m Q its hits sits nits ps pl B vD C hC F hm hms N hB hoff hP hH hSt hNt hI h2 hfit hrz hq
  have KX := C.X
  revert KX
  k_fill
  intro KX
  generalize hS : lawScope = S at hq ⊢
  conv at hS => lhs; whnf
  generalize hB9 : lawBody.drop 9 = B9 at hq
  conv at hB9 => lhs; whnf
  generalize hB8 : lawBody.drop 8 = B8
  conv at hB8 => lhs; whnf
  subst hS
  subst hB9
  subst hB8
  obtain ⟨p, loose, mean, mg, mb, T'⟩ := C.T
  have hlen := hP.1
  have F₁ := Fr.pins [(Str.ofString "inner", .ref rg), (Str.ofString "steps", .ref stA)] F (by simp [hm, hms])
  dsimp only [pinL] at F₁
  clear F
  obtain ⟨o3, m3, d3⟩ := hB.c3
  obtain ⟨o4, m4, d4⟩ := hB.c4
  have hplc : ∀ p ∈ pl, p ∈ (hpA, listOf hits.toArray c) :: (stA, listOf sits.toArray c1) :: (ntA, listOf nits.toArray c2) :: B := fun p hp => .tail _ (.tail _ (.tail _ (hB.pls p hp)))
  walk1
  walk_at "mine g1"
  refine row_ne N (.tail _ (.head _)) (.head _) (hSt.mono hplc) (hH.mono hplc) (by have := C.units; omega) ?_
  walk_at "mine g1"
  have n1 := ne_tab N (.head _) (.tail _ (.tail _ (.tail _ hB.tab)))
  have n2 := ne_tab N (.tail _ (.head _)) (.tail _ (.tail _ (.tail _ hB.tab)))
  have n3 := ne_tab N (.tail _ (.tail _ (.head _))) (.tail _ (.tail _ (.tail _ hB.tab)))
  have N₂ : News g L s.heap ((70, tabObj #[]) :: (hpA, listOf hits.toArray c) :: (stA, listOf sits.toArray c1) :: (ntA, listOf nits.toArray c2) :: B.filter (fun p => decide (@Ne Nat p.1 70))) := news_sub N (List.forall_mem_cons.mpr ⟨.tail _ (.tail _ (.tail _ hB.tab)), List.forall_mem_cons.mpr ⟨.head _, List.forall_mem_cons.mpr ⟨.tail _ (.head _), List.forall_mem_cons.mpr ⟨.tail _ (.tail _ (.head _)), fun p hp => .tail _ (.tail _ (.tail _ (List.mem_filter.mp hp).1))⟩⟩⟩⟩)
  refine kla_eval rfl ?_
  refine kla_nest (ps := #[]) F₁ N₂ T' hC rfl (UpdF.head (List.forall_mem_cons.mpr ⟨n1, List.forall_mem_cons.mpr ⟨n2, List.forall_mem_cons.mpr ⟨n3, off_filter⟩⟩⟩)) True.intro rfl rfl ?_
  intro fl cc oc vs tq ctv h₃ tk₃ F₃ N₃ dq1 dq2 lc lf
  dsimp only at N₃
  have hB₂ := hB.tabs (tb' := #[] ++ #[rawInt 94, rawInt 31, .ref cc])
  have hoff₂ : ∀ p ∈ (70, tabObj (#[] ++ #[rawInt 94, rawInt 31, .ref cc])) :: B.filter (fun p => decide (@Ne Nat p.1 70)), p.1 ≠ hpA := List.forall_mem_cons.mpr ⟨Ne.symm n1, fun p hp => hoff p (List.mem_filter.mp hp).1⟩
  have N₄ : News g L h₃ ((fl, _) :: (cc, oc) :: (hpA, listOf hits.toArray c) :: (stA, listOf sits.toArray c1) :: (ntA, listOf nits.toArray c2) :: (70, tabObj (#[] ++ #[rawInt 94, rawInt 31, .ref cc])) :: B.filter (fun p => decide (@Ne Nat p.1 70))) :=
    news_sub N₃ (List.forall_mem_cons.mpr ⟨.head _, List.forall_mem_cons.mpr ⟨.tail _ (.head _), List.forall_mem_cons.mpr ⟨.tail _ (.tail _ (.tail _ (.head _))), List.forall_mem_cons.mpr ⟨.tail _ (.tail _ (.tail _ (.tail _ (.head _)))), List.forall_mem_cons.mpr ⟨.tail _ (.tail _ (.tail _ (.tail _ (.tail _ (.head _))))), List.forall_mem_cons.mpr ⟨.tail _ (.tail _ (.head _)), fun p hp => .tail _ (.tail _ (.tail _ (.tail _ (.tail _ (.tail _ hp)))))⟩⟩⟩⟩⟩⟩)
  clear N₃ N₂ N F₁ m3 d3 m4 d4 hplc lc lf n1 n2 n3
  generalize (70, tabObj (#[] ++ #[rawInt 94, rawInt 31, .ref cc])) :: B.filter (fun p => decide (@Ne Nat p.1 70)) = B₂ at *
  clear hB hoff
  obtain ⟨o3, m3, d3⟩ := hB₂.c3
  obtain ⟨o4, m4, d4⟩ := hB₂.c4
  obtain ⟨o6, m6, d6⟩ := hB₂.c6
  obtain ⟨tr, ur, vr, mg'⟩ := hB₂.rng
  walk_at "mine g1"
  have hHl := heapF_length ps
  have hnl := ntL_length (ps.length / 2) ps
  have hnt := ntL_lt (ps.length / 2) ps (by omega)
  have hNl := hNt.1
  subst hrz
  refine reduce_call (d := ntL ps (ps.length / 2)) (ps := heapF ps) C F₃ N₄ (.tail _ (.tail _ (.head _))) (.tail _ (.tail _ (.tail _ (.tail _ (.tail _ mg'))))) ⟨_, _, _, _, .head _⟩ (hH.mono fun p hp => .tail _ (.tail _ (.tail _ (.tail _ (.tail _ (hB₂.pls p hp)))))) (by omega) ?_ ?_
  · intro A' h₁ L₁ a m₁ s₁ cur i ti its' n' Q' E' C₁ F₁ N₁ hsub ha hP' hi hq'
    refine enterL (binds := [(Str.ofString "old", .ref a), (Str.ofString "i", .int (i : Int) ti)]) C₁ F₁ N₁ (hsub _ (.head _)) (codeRec_news N₁ (hsub _ (.tail _ (.head _))) dq1 dq2) rfl (locs rfl) rfl rfl rfl (by decide) ?_
    intro g' L' s₂ Q'' r₂ C₂ F₂ N₂ back
    simp only [pinL, List.reverse_cons, List.reverse_nil, List.nil_append, List.cons_append] at F₂
    have X₂ := C₂.X
    obtain ⟨p₂, loose₂, mean₂, mg₂, mb₂, T₂⟩ := C₂.T
    have m6c := hsub _ (.tail _ (.tail _ (.tail _ (.tail _ (.tail _ m6)))))
    have mnc := hsub (ntA, listOf nits.toArray c2) (.tail _ (.tail _ (.tail _ (.tail _ (.head _)))))
    have hul := undoK_length (ntL ps (ps.length / 2)) (heapF ps) i
    have hpk := hnt i hi
    clear F₃ N₄
    walk_at "mine go"
    refine undo_call C₂ F₂ N₂ ha (hP'.mono hsub) (by omega) (by rw [hul, hHl]; exact hpk) (by omega) ?_
    intro s₃ a₃ its₃ n₃ r₃ F₃ N₃ l₃ p₃ sub₃
    exact back _ _ _ _ F₃ N₃ fun F N => hq' _ a₃ its₃ n₃ (by walk_at "mine rst") F N l₃ (p₃.base N₂ hsub fun v hv => hP'.in v (sub₃ v hv))
  · intro s₅ a₅ its₅ n₅ cur r₅ F₅ N₅ hsub ha p₅
    clear F₃ N₄
    rw [noted_ok hI] at p₅
    have m3c := hsub _ (.tail _ (.tail _ (.tail _ (.tail _ (.tail _ m3)))))
    have mrc := hsub _ (.tail _ (.tail _ (.tail _ (.tail _ (.tail _ hB₂.row)))))
    have hplc : ∀ p ∈ pl, p ∈ cur := fun p hp => hsub _ (.tail _ (.tail _ (.tail _ (.tail _ (.tail _ (hB₂.pls p hp))))))
    walk_at "mine g1"
    refine row_ne N₅ ha mrc (p₅.mono hsub) (hP.mono hplc) (by have := C.units; omega) ?_
    walk_at "mine g1"
    walk1
    walk_at "mine g1"
    refine hq _ _ B₂ cc (by walk_at "mine rst") F₅ rfl (news_sub N₅ (List.forall_mem_cons.mpr ⟨hsub _ (.tail _ (.tail _ (.head _))), fun p hp => hsub _ (.tail _ (.tail _ (.tail _ (.tail _ (.tail _ hp)))))⟩)) hB₂ hoff₂

theorem part6 : ∀ {w : World} {A : Around} {s : Shared} {g : Heap} {L f sc rowA rg hpA ntA : Addr} {k rz n0 c : Nat} {m : Str → Option Value} {Q : Flow → Shared → Prop} {vs its hits : List Value} {ns : List Int} {ps : List P} {pl B : List (Addr × Obj)} {vD : Option Value} {tb : Array Value}
    (C : Cx w A g L (k + 1)) (F : Fr g L s.heap m) (hm : m (Str.ofString "inner") = some (.ref rg)) (N : News g L s.heap ((hpA, listOf hits.toArray c) :: B)) (hB : LawB L sc rowA rg rz its n0 pl (some (.ref hpA)) vD (some (.ref ntA)) tb B)
    (hoff : ∀ p ∈ B, p.1 ≠ hpA) (hsc : g.IsList sc vs.toArray) (hI : IntsAre vs ns) (hns : ns.length < 900) (hlen : its.length = ps.length) (h2 : 2 ≤ ps.length) (hfit : ps.length < 900) (hrz : rz = ps.length / 2)
    (hq : ∀ s' m' B' drA dits d c1, rst s' = rst s → Fr g L s'.heap m' → m' (Str.ofString "inner") = some (.ref rg) → News g L s'.heap ((hpA, listOf hits.toArray c) :: (drA, listOf (List.toArray dits) c1) :: B') →
      LawB L sc rowA rg rz its n0 pl (some (.ref hpA)) (some (.ref drA)) (some (.ref ntA)) tb B' → (∀ p ∈ B', p.1 ≠ hpA) → Nats dits d → d.length = rz → (∀ j, j < rz → d.getD j 0 < szF j ps.length) →
      wpAny (model Challenge.rw_dn0052_01.row.prog w) A (execs (lawBody.drop 10) (envOfC (Str.ofString "law") lawScope L f (.ref 72))) Q (fun _ _ => False) s'),
    wpAny (model Challenge.rw_dn0052_01.row.prog w) A (execs (lawBody.drop 9) (envOfC (Str.ofString "law") lawScope L f (.ref 72))) Q (fun _ _ => False) s := by
  intro w A s g L f sc rowA rg hpA ntA k rz n0 c m Q vs its hits ns ps pl B vD tb C F hm N hB hoff hsc hI hns hlen h2 hfit hrz hq
  have KX := C.X
  revert KX
  k_fill
  intro KX
  generalize hS : lawScope = S at hq ⊢
  conv at hS => lhs; whnf
  generalize hB10 : lawBody.drop 10 = B10 at hq
  conv at hB10 => lhs; whnf
  generalize hB9 : lawBody.drop 9 = B9
  conv at hB9 => lhs; whnf
  subst hS
  subst hB10
  subst hB9
  obtain ⟨p, loose, mean, mg, mb, T'⟩ := C.T
  have hvl := hI.length
  have F₁ := Fr.pins [(Str.ofString "inner", .ref rg)] F (by simp [hm])
  dsimp only [pinL] at F₁
  clear F
  obtain ⟨o1, m1, d1⟩ := hB.c1
  obtain ⟨o3, m3, d3⟩ := hB.c3
  obtain ⟨o5, m5, d5⟩ := hB.c5
  obtain ⟨tr, ur, vr, mgg⟩ := hB.rng
  have mr := hB.row
  walk1
  refine wpAny_Assign_Name ?_ (hs := by with_unfolding_all rfl)
  refine LCg.ListComp_U (F₀ := by k_asm) (by with_unfolding_all rfl) (by decide) (by rfl) (by decide) (by rfl) ?_
  walk_at "mine go"
  refine srcU_r (n := rz) (fun i ys nw => nw = (hpA, listOf hits.toArray c) :: B ∧ ∃ ds, Nats ys ds ∧ ds.length = i ∧ ∀ j, j < i → ds.getD j 0 < szF j ps.length) C.hh F₁ N (.tail _ mgg) (small01 (by omega)) size01 (by omega) ⟨rfl, [], Nats.nil, rfl, fun j h => by omega⟩ ?_ ?_
  · rintro i ti I oI Cc oC D m₂ s₅ ys nw E' hi ⟨rfl, ds, hds, hdl, hdj⟩ hC hx r₅ F₅ N₅ off ne
    rw [show (0 : Int) + (i : Int) = ((i : Nat) : Int) by omega] at hx
    clear F₁ N
    walk_at "mine go"
    rename Fr _ _ _ _ => F₆
    rename News _ _ _ _ => N₆
    refine below_call C F₆ N₆ (show i < ps.length by omega) (by omega) ?_
    intro s₇ pA pits pn r₇ F₇ N₇ l₇ h₇
    clear F₆ N₆
    have hpl7 : pits.length = szF i ps.length := by rw [h₇.1, belowF_length]
    have hzp := szF_pos (show i < ps.length by omega)
    have hzl := szF_le i ps.length
    walk_at "mine go"
    rename (_ < szF i ps.length) => hz
    rename_i z tz tkz
    refine ⟨_, by walk_at "mine rst", F₇, news_sub N₇ (fun p hp => .tail _ (.tail _ hp)), off, trivial, rfl, ds ++ [z], Nats.append hds (Nats.cons Nats.nil z tz), by simp [hdl], ?_⟩
    intro j hj
    by_cases e : j = i
    · subst e
      have : (ds ++ [z]).getD j 0 = z := by simp [List.getD_eq_getElem?_getD, hdl]
      rw [this]; exact hz
    · have : (ds ++ [z]).getD j 0 = ds.getD j 0 := by
        rw [List.getD_eq_getElem?_getD, List.getD_eq_getElem?_getD, List.getElem?_append_left (by omega)]
      rw [this]; exact hdj j (by omega)
  · rintro drA ys nw s₅ r₅ F₅ N₅ hD ⟨rfl, ds, hds, hdl, hdj⟩
    clear F₁ N
    walk_at "mine g1"
    rename Fr _ _ _ _ => F₆
    rename News _ _ _ _ => N₆
    rename (_ = Data.cell (some (Value.ref drA))) => d5'
    rw [setN_cons (Ne.symm (hD _ (.tail _ m5))), setN_cons (Ne.symm (hoff _ m5))] at N₆
    refine hq _ _ _ drA ys ds ys.length (by walk_at "mine rst") F₆ rfl (news_sub N₆ ?_) (hB.set5 d5') (setN_adr (R := fun z => z ≠ hpA) hoff) hds hdl hdj
    intro p hp
    simp only [List.mem_cons] at hp ⊢
    rcases hp with h | h | h
    · exact .inr (.inl h)
    · exact .inl h
    · exact .inr (.inr h)

theorem part7 : ∀ {w : World} {A : Around} {s : Shared} {g : Heap} {L f sc rowA rg hpA drA ntA cc₀ : Addr} {k rz n0 c c1 : Nat} {m : Str → Option Value} {Q : Flow → Shared → Prop} {its hits dits : List Value} {ps : List P} {d : List Nat} {pl B : List (Addr × Obj)}
    (C : Cx w A g L (k + 1 + 1 + 1 + 1)) (hC : CodeHd g 72 70) (F : Fr g L s.heap m) (hm : m (Str.ofString "inner") = some (.ref rg)) (N : News g L s.heap ((hpA, listOf hits.toArray c) :: (drA, listOf dits.toArray c1) :: B)) (hB : LawB L sc rowA rg rz its n0 pl (some (.ref hpA)) (some (.ref drA)) (some (.ref ntA)) (#[] ++ #[rawInt 94, rawInt 31, .ref cc₀]) B)
    (hH : Pairs pl hits (heapF ps)) (hD : Nats dits d) (hdl : d.length = rz) (hdj : ∀ j, j < rz → d.getD j 0 < szF j ps.length) (h2 : 2 ≤ ps.length) (hfit : ps.length < 900) (hrz : rz = ps.length / 2)
    (hq : ∀ s' m' B' otA oits n' tb, rst s' = rst s → Fr g L s'.heap m' → m' (Str.ofString "other") = some (.ref otA) → News g L s'.heap ((hpA, listOf hits.toArray c) :: (otA, listOf (List.toArray oits) n') :: (drA, listOf dits.toArray c1) :: B') →
      LawB L sc rowA rg rz its n0 pl (some (.ref hpA)) (some (.ref drA)) (some (.ref ntA)) tb B' → Pairs pl oits (undoK d (heapF ps) rz) →
      wpAny (model Challenge.rw_dn0052_01.row.prog w) A (execs (lawBody.drop 11) (envOfC (Str.ofString "law") lawScope L f (.ref 72))) Q (fun _ _ => False) s'),
    wpAny (model Challenge.rw_dn0052_01.row.prog w) A (execs (lawBody.drop 10) (envOfC (Str.ofString "law") lawScope L f (.ref 72))) Q (fun _ _ => False) s := by
  intro w A s g L f sc rowA rg hpA drA ntA cc₀ k rz n0 c c1 m Q its hits dits ps d pl B C hC F hm N hB hH hD hdl hdj h2 hfit hrz hq
  have KX := C.X
  revert KX
  k_fill
  intro KX
  generalize hS : lawScope = S at hq ⊢
  conv at hS => lhs; whnf
  generalize hB11 : lawBody.drop 11 = B11 at hq
  conv at hB11 => lhs; whnf
  generalize hB10 : lawBody.drop 10 = B10
  conv at hB10 => lhs; whnf
  subst hS
  subst hB11
  subst hB10
  obtain ⟨p, loose, mean, mg, mb, T'⟩ := C.T
  have F₁ := Fr.pins [(Str.ofString "inner", .ref rg)] F (by simp [hm])
  dsimp only [pinL] at F₁
  clear F
  walk1
  walk_at "mine g1"
  have n1 := ne_tab N (.head _) (.tail _ (.tail _ hB.tab))
  have n2 := ne_tab N (.tail _ (.head _)) (.tail _ (.tail _ hB.tab))
  have N₂ : News g L s.heap ((70, tabObj (#[] ++ #[rawInt 94, rawInt 31, .ref cc₀])) :: (hpA, listOf hits.toArray c) :: (drA, listOf dits.toArray c1) :: B.filter (fun p => decide (@Ne Nat p.1 70))) := news_sub N (List.forall_mem_cons.mpr ⟨.tail _ (.tail _ hB.tab), List.forall_mem_cons.mpr ⟨.head _, List.forall_mem_cons.mpr ⟨.tail _ (.head _), fun p hp => .tail _ (.tail _ (List.mem_filter.mp hp).1)⟩⟩⟩)
  refine kla_eval rfl ?_
  refine kla_nest (ps := #[] ++ #[rawInt 94, rawInt 31, .ref cc₀]) F₁ N₂ T' hC rfl (UpdF.head (List.forall_mem_cons.mpr ⟨n1, List.forall_mem_cons.mpr ⟨n2, off_filter⟩⟩)) (by kn_triples) (by kn_among) rfl ?_
  intro fl cc oc vs tq ctv h₃ tk₃ F₃ N₃ dq1 dq2 lc lf
  dsimp only at N₃
  have hB₂ := hB.tabs (tb' := #[] ++ #[rawInt 94, rawInt 31, .ref cc₀] ++ #[rawInt 97, rawInt 19, .ref cc])
  have N₄ : News g L h₃ ((fl, _) :: (cc, oc) :: (hpA, listOf hits.toArray c) :: (drA, listOf dits.toArray c1) :: (70, tabObj (#[] ++ #[rawInt 94, rawInt 31, .ref cc₀] ++ #[rawInt 97, rawInt 19, .ref cc])) :: B.filter (fun p => decide (@Ne Nat p.1 70))) :=
    news_sub N₃ (List.forall_mem_cons.mpr ⟨.head _, List.forall_mem_cons.mpr ⟨.tail _ (.head _), List.forall_mem_cons.mpr ⟨.tail _ (.tail _ (.tail _ (.head _))), List.forall_mem_cons.mpr ⟨.tail _ (.tail _ (.tail _ (.tail _ (.head _)))), List.forall_mem_cons.mpr ⟨.tail _ (.tail _ (.head _)), fun p hp => .tail _ (.tail _ (.tail _ (.tail _ (.tail _ hp))))⟩⟩⟩⟩⟩)
  clear N₃ N₂ N F₁ lc lf n1 n2
  generalize (70, tabObj (#[] ++ #[rawInt 94, rawInt 31, .ref cc₀] ++ #[rawInt 97, rawInt 19, .ref cc])) :: B.filter (fun p => decide (@Ne Nat p.1 70)) = B₂ at *
  clear hB
  obtain ⟨o4, m4, d4⟩ := hB₂.c4
  obtain ⟨o5, m5, d5⟩ := hB₂.c5
  obtain ⟨tr, ur, vr, mg'⟩ := hB₂.rng
  walk_at "mine g1"
  have hHl := heapF_length ps
  have hNl := hD.1
  subst hrz
  refine reduce_call (d := d) (ps := heapF ps) C F₃ N₄ (.tail _ (.tail _ (.head _))) (.tail _ (.tail _ (.tail _ (.tail _ mg')))) ⟨_, _, _, _, .head _⟩ (hH.mono fun p hp => .tail _ (.tail _ (.tail _ (.tail _ (hB₂.pls p hp))))) (by omega) ?_ ?_
  · intro A' h₁ L₁ a m₁ s₁ cur i ti its' n' Q' E' C₁ F₁ N₁ hsub ha hP' hi hq'
    refine enterL (binds := [(Str.ofString "old", .ref a), (Str.ofString "i", .int (i : Int) ti)]) C₁ F₁ N₁ (hsub _ (.head _)) (codeRec_news N₁ (hsub _ (.tail _ (.head _))) dq1 dq2) rfl (locs rfl) rfl rfl rfl (by decide) ?_
    intro g' L' s₂ Q'' r₂ C₂ F₂ N₂ back
    simp only [pinL, List.reverse_cons, List.reverse_nil, List.nil_append, List.cons_append] at F₂
    have X₂ := C₂.X
    obtain ⟨p₂, loose₂, mean₂, mg₂, mb₂, T₂⟩ := C₂.T
    have m5c := hsub _ (.tail _ (.tail _ (.tail _ (.tail _ m5))))
    have mnc := hsub (drA, listOf dits.toArray c1) (.tail _ (.tail _ (.tail _ (.head _))))
    have hul := undoK_length d (heapF ps) i
    have hpk := hdj i hi
    clear F₃ N₄
    walk_at "mine go"
    refine undo_call C₂ F₂ N₂ ha (hP'.mono hsub) (by omega) (by rw [hul, hHl]; exact hpk) (by omega) ?_
    intro s₃ a₃ its₃ n₃ r₃ F₃ N₃ l₃ p₃ sub₃
    exact back _ _ _ _ F₃ N₃ fun F N => hq' _ a₃ its₃ n₃ (by walk_at "mine rst") F N l₃ (p₃.base N₂ hsub fun v hv => hP'.in v (sub₃ v hv))
  · intro s₅ a₅ its₅ n₅ cur r₅ F₅ N₅ hsub ha p₅
    clear F₃ N₄
    walk_at "mine g1"
    rename Fr _ _ _ _ => F₆
    rename News _ _ _ _ => N₆
    have p₆ : Pairs pl its₅ _ := p₅.onto (np_cons (np_cons (np_cons (np_cons hB₂.np np_list) np_list) (np_fields dq1)) np_fun)
    refine hq _ _ B₂ a₅ its₅ n₅ _ (by walk_at "mine rst") F₆ rfl (news_sub N₆ (List.forall_mem_cons.mpr ⟨hsub _ (.tail _ (.tail _ (.head _))), List.forall_mem_cons.mpr ⟨ha, List.forall_mem_cons.mpr ⟨hsub _ (.tail _ (.tail _ (.tail _ (.head _)))), fun p hp => hsub _ (.tail _ (.tail _ (.tail _ (.tail _ hp))))⟩⟩⟩)) hB₂ p₆

theorem part8 : ∀ {w : World} {A : Around} {s : Shared} {g : Heap} {L f sc rowA rg hpA otA drA ntA : Addr} {k rz n0 c c0 c1 : Nat} {m : Str → Option Value} {Q : Flow → Shared → Prop} {its hits oits dits : List Value} {ps O : List P} {d : List Nat} {pl B : List (Addr × Obj)} {tb : Array Value}
    (C : Cx w A g L (k + 1 + 1 + 1 + 1)) (F : Fr g L s.heap m) (hm : m (Str.ofString "other") = some (.ref otA)) (N : News g L s.heap ((hpA, listOf hits.toArray c) :: (otA, listOf oits.toArray c0) :: (drA, listOf dits.toArray c1) :: B)) (hB : LawB L sc rowA rg rz its n0 pl (some (.ref hpA)) (some (.ref drA)) (some (.ref ntA)) tb B)
    (hH : Pairs pl hits (heapF ps)) (hO : Pairs pl oits O) (hD : Nats dits d) (h2 : 2 ≤ O.length) (hfit : O.length < 900) (e1 : heapF O = heapF ps) (e2 : stepsF O = (heapF ps, d))
    (hq : ∀ s' m' news tb', rst s' = rst s → Fr g L s'.heap m' → News g L s'.heap news → (70, tabObj tb') ∈ news → Q (.ret (.bool true)) s'),
    wpAny (model Challenge.rw_dn0052_01.row.prog w) A (execs (lawBody.drop 11) (envOfC (Str.ofString "law") lawScope L f (.ref 72))) Q (fun _ _ => False) s := by
  intro w A s g L f sc rowA rg hpA otA drA ntA k rz n0 c c0 c1 m Q its hits oits dits ps O d pl B tb C F hm N hB hH hO hD h2 hfit e1 e2 hq
  have KX := C.X
  revert KX
  k_fill
  intro KX
  generalize hS : lawScope = S
  conv at hS => lhs; whnf
  generalize hB11 : lawBody.drop 11 = B11
  conv at hB11 => lhs; whnf
  subst hS
  subst hB11
  obtain ⟨p, loose, mean, mg, mb, T'⟩ := C.T
  have F₁ := Fr.pins [(Str.ofString "other", .ref otA)] F (by simp [hm])
  dsimp only [pinL] at F₁
  clear F
  have hol := hO.1
  obtain ⟨o4, m4, d4⟩ := hB.c4
  obtain ⟨o5, m5, d5⟩ := hB.c5
  walk1
  walk_at "mine g1"
  rename Fr _ _ _ _ => F₂
  rename News _ _ _ _ => N₂
  rename (∀ p, p ∈ _ → _ < _) => l₂
  rename_i agA _ ca _ s₂ r₂
  walk1
  walk_at "mine g1"
  have hplc : ∀ p ∈ pl, p ∈ (agA, listOf oits.toArray ca) :: (hpA, listOf hits.toArray c) :: (otA, listOf oits.toArray c0) :: (drA, listOf dits.toArray c1) :: B := fun p hp => .tail _ (.tail _ (.tail _ (.tail _ (hB.pls p hp))))
  refine heapify_call C F₂ N₂ (.head _) (hO.mono hplc) (by omega) ?_
  intro s₃ aits r₃ F₃ N₃ p₃ sub₃
  have p₄ : Pairs pl aits (heapF ps) := by rw [← e1]; exact p₃.base N₂ hplc (fun v hv => hO.in v (sub₃ v hv))
  rw [setN_head (fun p hp => Nat.ne_of_lt (l₂ p hp))] at N₃
  have hplc₃ : ∀ p ∈ pl, p ∈ (agA, listOf aits.toArray ca) :: (hpA, listOf hits.toArray c) :: (otA, listOf oits.toArray c0) :: (drA, listOf dits.toArray c1) :: B := fun p hp => .tail _ (.tail _ (.tail _ (.tail _ (hB.pls p hp))))
  clear F₂ N₂ hplc p₃ sub₃
  walk_at "mine g1"
  walk1
  walk_at "mine g1"
  refine row_eq N₃ (.head _) (.tail _ (.head _)) (p₄.mono hplc₃) (hH.mono hplc₃) (by have := C.units; omega) ?_
  walk_at "mine g1"
  refine steps_call C F₃ N₃ (.tail _ (.tail _ (.head _))) (hO.mono hplc₃) (by omega) (by omega) ?_
  intro s₄ ta stA nA sits nits x1 x2 x3 r₄ F₄ N₄ l1 l2 l3 f1 f2 f3 p₅ n₅
  rw [e2] at p₅ n₅
  clear F₃ N₃
  walk_at "mine g1"
  rename Fr _ _ _ _ => F₅
  rename News _ _ _ _ => N₅
  refine two_eq N₅ (.tail _ (.head _)) (.head _) (.tail _ (.tail _ (.head _))) (.tail _ (.tail _ (.tail _ (.head _)))) (.tail _ (.tail _ (.tail _ (.tail _ (.tail _ (.head _)))))) (.tail _ (.tail _ (.tail _ (.tail _ (.tail _ (.tail _ (.tail _ (.head _)))))))) (p₅.mono fun p hp => .tail _ (.tail _ (.tail _ (.tail _ hp)))) ((hH.mono hplc₃).mono fun p hp => .tail _ (.tail _ (.tail _ (.tail _ hp)))) n₅ hD (by have := C.units; omega) ?_
  exact hq _ _ _ tb (by walk_at "mine rst") F₅ N₅ (.tail _ (.tail _ (.tail _ (.tail _ (.tail _ (.tail _ (.tail _ (.tail _ hB.tab))))))))

def LawPost (g : Heap) (L : Addr) (s : Shared) (fl : Flow) (s' : Shared) : Prop := fl = .ret (.bool true) ∧ rst s' = rst s ∧ ∃ m news ps, Fr g L s'.heap m ∧ News g L s'.heap news ∧ (70, tabObj ps) ∈ news
theorem law_mono {M : Model} {A : Around} {t : Sem Flow} {Q : Flow → Shared → Prop} {E : Value → Shared → Prop} {s : Shared} {g h : Heap} {L : Addr} {m : Str → Option Value} (F : Fr g L h m)
    (h1 : wpAny M A t (LawPost g L s) (fun _ _ => False) s) (h2 : ∀ h' tk m' news ps, Fr g L h' m' → News g L h' ((70, tabObj ps) :: news) → Q (.ret (.bool true)) { s with heap := h', toks := tk }) : wpAny M A t Q E s :=
  wpAny_mono h1 (fun fl s' ⟨e, r, m', news, ps, F', N', hp⟩ => by
    subst e
    rw [rst_eq r]
    exact h2 _ _ m' news ps F' fun p h => by
      rcases List.mem_cons.mp h with rfl | h
      · exact N' _ hp
      · exact N' _ h) (fun _ _ x => x.elim)

theorem law_body {w : World} {A : Around} {s : Shared} {g : Heap} {L f sc : Addr} {vs : List Value} {ns : List Int} {o1 o2 o3 o4 o5 o6 : Obj}
    (C : Cx w A g L (0 + 1 + 1 + 1 + 1)) (hC : CodeHd g 72 70) (F : Fr g L s.heap (fun _ => none)) (N : News g L s.heap [(L + 1 + 1 + 1 + 1 + 1 + 1, o6), (L + 1 + 1 + 1 + 1 + 1, o5), (L + 1 + 1 + 1 + 1, o4), (L + 1 + 1 + 1, o3), (L + 1 + 1, o2), (L + 1, o1), (70, tabObj #[])])
    (d1 : o1.data = .cell (some (.ref sc))) (d2 : o2.data = .cell none) (d3 : o3.data = .cell none) (d4 : o4.data = .cell none) (d5 : o5.data = .cell none) (d6 : o6.data = .cell none)
    (hsc : g.IsList sc vs.toArray) (hI : IntsAre vs ns) (hn : ns.length ≤ 63) (h70 : @LT.lt Nat _ 70 L) :
    wpAny (model Challenge.rw_dn0052_01.row.prog w) A (execs lawBody (envOfC (Str.ofString "law") lawScope L f (.ref 72))) (LawPost g L s) (fun _ _ => False) s := by
  have hrl := rowF_length ns
  have hinj := rowF_inj ns
  refine part1 C F N d1 d2 d3 hsc hI hn h70 ?_
  intro s1 rowA its n0 pl o2' o3' rg t u v r1 F1 N1 d3' d2' hP hplb hfr hlt hfg
  obtain ⟨v2, d2'⟩ := d2'
  refine part2 C F1 rfl N1 (.tail _ (.head _)) (.tail _ (.tail _ (.tail _ (.tail _ (.tail _ (.head _)))))) (fun p hp => .tail _ (.tail _ (.tail _ (.tail _ (.tail _ (.tail _ (.tail _ (.tail _ (.tail _ hp))))))))) d3' hP (by omega) (by omega) ?_
  intro s2 m2 r2 F2 hm2 N2
  have hB : LawB L sc rowA rg ((ns.length + 3) / 2) its n0 pl none none none #[] ((rg, rangeObj 0 (((ns.length + 3) / 2 : Nat) : Int) 1 t u v) :: (rowA, listOf its.toArray n0) :: (L + 1 + 1 + 1 + 1 + 1 + 1, o6) :: (L + 1 + 1 + 1 + 1 + 1, o5) :: (L + 1 + 1 + 1 + 1, o4) :: (L + 1 + 1 + 1, o3') :: (L + 1 + 1, o2') :: (L + 1, o1) :: (70, tabObj #[]) :: pl) :=
    { row := .tail _ (.head _)
      rng := ⟨t, u, v, .head _⟩
      pls := fun p hp => .tail _ (.tail _ (.tail _ (.tail _ (.tail _ (.tail _ (.tail _ (.tail _ (.tail _ hp))))))))
      c1 := ⟨o1, .tail _ (.tail _ (.tail _ (.tail _ (.tail _ (.tail _ (.tail _ (.head _))))))), d1⟩
      c3 := ⟨o3', .tail _ (.tail _ (.tail _ (.tail _ (.tail _ (.head _))))), d3'⟩
      c4 := ⟨o4, .tail _ (.tail _ (.tail _ (.tail _ (.head _)))), d4⟩
      c5 := ⟨o5, .tail _ (.tail _ (.tail _ (.head _))), d5⟩
      c6 := ⟨o6, .tail _ (.tail _ (.head _)), d6⟩
      tab := .tail _ (.tail _ (.tail _ (.tail _ (.tail _ (.tail _ (.tail _ (.tail _ (.head _))))))))
      fr := hfr
      fg := hfg
      plb := ⟨rg, hplb⟩
      h70 := h70
      np := np_cons (np_cons (np_cons (np_cons (np_cons (np_cons (np_cons (np_cons (np_cons (fun q hq => .inl hq) np_tab) (np_cell d1)) (np_cell d2')) (np_cell d3')) (np_cell d4)) (np_cell d5)) (np_cell d6)) np_list) np_range }
  refine part3 C F2 hm2 N2 hB hP (by omega) (by omega) ?_
  intro s3 m3 B3 hpA hits c r3 F3 hm3 N3 hB3 hoff3 hH
  refine part4 C F3 hm3 N3 hB3 hoff3 hP hH hinj (by omega) (by omega) (by rw [hrl]) ?_
  intro s4 m4 B4 stA ntA sits nits c1 c2 r4 F4 hm4 hms4 N4 hB4 hoff4 hSt hNt
  refine part5 C hC F4 hm4 hms4 N4 hB4 hoff4 hP hH hSt hNt hinj (by omega) (by omega) (by rw [hrl]) ?_
  intro s5 m5 B5 cc r5 F5 hm5 N5 hB5 hoff5
  refine part6 (ps := rowF ns) C F5 hm5 N5 hB5 hoff5 hsc hI (by omega) hP.1 (by omega) (by omega) (by rw [hrl]) ?_
  intro s6 m6 B6 drA dits d cd r6 F6 hm6 N6 hB6 hoff6 hD hdl hdj
  refine part7 (ps := rowF ns) C hC F6 hm6 N6 hB6 hH hD hdl hdj (by omega) (by omega) (by rw [hrl]) ?_
  intro s7 m7 B7 otA oits n' tb r7 F7 hm7 N7 hB7 hO
  have hok := drawn_ok hinj d (by rw [hdl, hrl]) (by rw [hrl]; rw [hrl] at hdj; exact hdj)
  rw [hrl] at hok
  have hul := undoK_length d (heapF (rowF ns)) ((ns.length + 3) / 2)
  have hhl := heapF_length (rowF ns)
  refine part8 C F7 hm7 N7 hB7 hH hO hD (by omega) (by omega) hok.1 hok.2 ?_
  intro s8 m8 news tb' r8 F8 N8 h8
  exact ⟨rfl, r8.trans (r7.trans (r6.trans (r5.trans (r4.trans (r3.trans (r2.trans r1)))))), m8, news, tb', F8, N8, h8⟩

theorem law_holds : Challenge.rw_dn0052_01.Holds := hd (by
  k_go0
  rename Fr _ _ _ _ => F
  rename News _ _ _ _ => N
  rename Frag.In _ _ => X
  rename Below _ _ _ _ => K
  rename CodeHd _ _ _ => hC
  refine law_mono F ?_ ?_
  · refine law_body ⟨⟨_, _, _, _, K, rfl, rfl, rfl⟩, X, ⟨_, _, _, _, _, by assumption⟩, ?_, ?_, rfl⟩ hC F N ?_ ?_ ?_ ?_ ?_ ?_ (by assumption) (by assumption) ?_ ?_
    · simp only [depth_deeper, depth_caller]
      decide
    · show callerA.units + 3 + 70 + 4 * (0 + 1 + 1 + 1 + 1) < cLine
      decide
    · assumption
    · assumption
    · assumption
    · assumption
    · assumption
    · assumption
    · omega
    · assumption
  · intro h' tk m' news ps F' N'
    clear F N
    k_steps)

end Mine

theorem PySem.Challenge.cw_dn0052_01_holds : PySem.Challenge.rw_dn0052_01.Holds :=
  Mine.law_holds
