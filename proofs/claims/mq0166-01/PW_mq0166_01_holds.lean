import PyProof.Rows.All
import Wide.All
import OpenK.AllK
import Wide.FinOn
import Lean
import PySem.Challenge.RW_mq0166_01
set_option Elab.async false
set_option linter.unusedVariables false
set_option linter.unusedSimpArgs false

section
namespace Mine
/-- what _siftdown(heap, 0, p) does with the new item x -/
def sd (x : Int) (xs : List Int) (p : Nat) : List Int :=
  if h : p = 0 then xs.set 0 x
  else if x < xs.getD ((p - 1) / 2) 0 then sd x (xs.set p (xs.getD ((p - 1) / 2) 0)) ((p - 1) / 2)
  else xs.set p x
termination_by p
decreasing_by omega

theorem sd_zero (x : Int) (xs : List Int) : sd x xs 0 = xs.set 0 x := by rw [sd]; simp
theorem sd_up {x : Int} {xs : List Int} {p : Nat} (h : p ≠ 0) (hx : x < xs.getD ((p - 1) / 2) 0) : sd x xs p = sd x (xs.set p (xs.getD ((p - 1) / 2) 0)) ((p - 1) / 2) := by
  rw [sd]; simp only [h, dite_false, hx, if_true]
theorem sd_stop {x : Int} {xs : List Int} {p : Nat} (h : p ≠ 0) (hx : ¬ x < xs.getD ((p - 1) / 2) 0) : sd x xs p = xs.set p x := by
  rw [sd]; simp only [h, dite_false, hx, if_false]
theorem sd_length {x : Int} : ∀ {p : Nat} {xs : List Int}, (sd x xs p).length = xs.length := by
  intro p
  induction p using Nat.strongRecOn with
  | ind p ih =>
    intro xs
    by_cases h : p = 0
    · subst h; rw [sd_zero, List.length_set]
    · by_cases hx : x < xs.getD ((p - 1) / 2) 0
      · rw [sd_up h hx, ih _ (by omega), List.length_set]
      · rw [sd_stop h hx, List.length_set]
end Mine
end

section
namespace Mine
/-- the child that _siftup goes down to -/
def child (xs : List Int) (p : Nat) : Nat := if 2 * p + 2 < xs.length ∧ ¬ xs.getD (2 * p + 1) 0 < xs.getD (2 * p + 2) 0 then 2 * p + 2 else 2 * p + 1
theorem child_lt {xs : List Int} {p : Nat} (h : 2 * p + 1 < xs.length) : child xs p < xs.length ∧ p < child xs p := by
  unfold child; split <;> omega
/-- the hole's way down in _siftup -/
def su (xs : List Int) (p : Nat) : List Int × Nat :=
  if h : 2 * p + 1 < xs.length then su (xs.set p (xs.getD (child xs p) 0)) (child xs p) else (xs, p)
termination_by xs.length - p
decreasing_by
  have := child_lt h
  simp only [List.length_set]; omega
theorem su_step {xs : List Int} {p : Nat} (h : 2 * p + 1 < xs.length) : su xs p = su (xs.set p (xs.getD (child xs p) 0)) (child xs p) := by
  rw [su]; simp only [h, dite_true]
theorem su_stop {xs : List Int} {p : Nat} (h : ¬ 2 * p + 1 < xs.length) : su xs p = (xs, p) := by
  rw [su]; simp only [h, dite_false]
theorem su_facts : ∀ (k : Nat) {xs : List Int} {p : Nat}, xs.length - p < k → p < xs.length → (su xs p).1.length = xs.length ∧ (su xs p).2 < xs.length := by
  intro k
  induction k with
  | zero => intro xs p h; omega
  | succ k ih =>
    intro xs p hk hp
    by_cases h : 2 * p + 1 < xs.length
    · have hc := child_lt h
      rw [su_step h]
      have := ih (xs := xs.set p (xs.getD (child xs p) 0)) (p := child xs p) (by rw [List.length_set]; omega) (by rw [List.length_set]; omega)
      rw [List.length_set] at this
      exact this
    · rw [su_stop h]; exact ⟨rfl, hp⟩
theorem su_length {xs : List Int} {p : Nat} (h : p < xs.length) : (su xs p).1.length = xs.length := (su_facts _ (Nat.lt_succ_self _) h).1
theorem su_lt {xs : List Int} {p : Nat} (h : p < xs.length) : (su xs p).2 < xs.length := (su_facts _ (Nat.lt_succ_self _) h).2
/-- what _siftup(heap, 0) does -/
def sift (xs : List Int) : List Int := sd (xs.getD 0 0) ((su xs 0).1.set (su xs 0).2 (xs.getD 0 0)) (su xs 0).2
theorem sift_length {xs : List Int} (h : 0 < xs.length) : (sift xs).length = xs.length := by
  unfold sift; rw [sd_length, List.length_set, su_length h]
end Mine
end

section
namespace Mine
def pushL (ns : List Int) (x : Int) : List Int := sd x (ns ++ [x]) ns.length
def popL (ns : List Int) : List Int := if ns.dropLast = [] then [] else sift (ns.dropLast.set 0 (ns.getLastD 0))
def replL (ns : List Int) (x : Int) : List Int := sift (ns.set 0 x)
def ppV (ns : List Int) (x : Int) : Int := if ns ≠ [] ∧ ns.getD 0 0 < x then ns.getD 0 0 else x
def ppL (ns : List Int) (x : Int) : List Int := if ns ≠ [] ∧ ns.getD 0 0 < x then sift (ns.set 0 x) else ns
end Mine
namespace Mine
theorem getD_dropLast {ns : List Int} (h : 0 < ns.dropLast.length) : ns.dropLast.getD 0 0 = ns.getD 0 0 := by
  match ns, h with
  | a :: b :: r, _ => rfl
theorem getLastD_one {ns : List Int} (h0 : 0 < ns.length) (h : ¬ 0 < ns.dropLast.length) : ns.getLastD 0 = ns.getD 0 0 := by
  match ns, h0, h with
  | [a], _, _ => rfl
  | a :: b :: r, _, h => exact absurd (Nat.succ_pos _) h
theorem popL_pos {ns : List Int} (h : 0 < ns.dropLast.length) : popL ns = sift (ns.dropLast.set 0 (ns.getLastD 0)) := by
  unfold popL; rw [if_neg (List.length_pos_iff.mp h)]
theorem popL_nil {ns : List Int} (h : ¬ 0 < ns.dropLast.length) : popL ns = ns.dropLast := by
  have e : ns.dropLast = [] := by
    cases hd : ns.dropLast with
    | nil => rfl
    | cons a r => rw [hd] at h; exact absurd (Nat.succ_pos _) h
  unfold popL; rw [if_pos e, e]
theorem pp_lt {ns : List Int} {x : Int} (h0 : 0 < ns.length) (h : ns.getD 0 0 < x) : ppV ns x = ns.getD 0 0 ∧ ppL ns x = sift (ns.set 0 x) := by
  unfold ppV ppL
  have c : ns ≠ [] ∧ ns.getD 0 0 < x := ⟨List.length_pos_iff.mp h0, h⟩
  rw [if_pos c, if_pos c]; exact ⟨rfl, rfl⟩
theorem pp_ge {ns : List Int} {x : Int} (h : ¬ ns.getD 0 0 < x) : ppV ns x = x ∧ ppL ns x = ns := by
  unfold ppV ppL
  have c : ¬ (ns ≠ [] ∧ ns.getD 0 0 < x) := fun c => h c.2
  rw [if_neg c, if_neg c]; exact ⟨rfl, rfl⟩
theorem pp_nil {ns : List Int} {x : Int} (h : ¬ 0 < ns.length) : ppV ns x = x ∧ ppL ns x = ns := by
  unfold ppV ppL
  have c : ¬ (ns ≠ [] ∧ ns.getD 0 0 < x) := fun c => h (List.length_pos_iff.mpr c.1)
  rw [if_neg c, if_neg c]; exact ⟨rfl, rfl⟩
end Mine
end

section
namespace Mine
/-- what _deduplicate_unhashable keeps -/
def dd (ns : List Int) : List Int := ns.foldl (fun acc x => if acc.any (· == x) then acc else acc ++ [x]) []
theorem dd_nil : dd [] = [] := rfl
theorem dd_in {pre : List Int} {x : Int} (h : (dd pre).any (· == x) = true) : dd (pre ++ [x]) = dd pre := by
  unfold dd at *; rw [List.foldl_append, List.foldl_cons, List.foldl_nil, if_pos h]
theorem dd_out {pre : List Int} {x : Int} (h : ¬ (dd pre).any (· == x) = true) : dd (pre ++ [x]) = dd pre ++ [x] := by
  unfold dd at *; rw [List.foldl_append, List.foldl_cons, List.foldl_nil, if_neg h]
end Mine
namespace Mine
theorem dd_len (ns : List Int) : (dd ns).length ≤ ns.length := by
  have key : ∀ (ns acc : List Int), (ns.foldl (fun acc x => if acc.any (· == x) then acc else acc ++ [x]) acc).length ≤ acc.length + ns.length := by
    intro ns
    induction ns with
    | nil => intro acc; simp
    | cons a r ih =>
      intro acc
      rw [List.foldl_cons]
      refine Nat.le_trans (ih _) ?_
      split
      · simp only [List.length_cons]; omega
      · simp only [List.length_append, List.length_cons, List.length_nil]; omega
  have h := key ns []
  rw [List.length_nil, Nat.zero_add] at h
  exact h
end Mine
namespace Mine
/-- t.remove for each of the first: what is left, or an error -/
def rm : List Int → List Int → Option (List Int)
  | [], t => some t
  | x :: r, t => if t.any (· == x) = true then rm r (t.erase x) else none
theorem rm_snoc : ∀ (pre : List Int) (x : Int) (t : List Int), rm (pre ++ [x]) t = (rm pre t).bind fun u => if u.any (· == x) = true then some (u.erase x) else none
  | [], x, t => by show (if t.any (· == x) = true then some (t.erase x) else none) = _; rfl
  | y :: r, x, t => by
    show (if t.any (· == y) = true then rm (r ++ [x]) (t.erase y) else none) = (if t.any (· == y) = true then rm r (t.erase y) else none).bind _
    split
    · exact rm_snoc r x _
    · rfl
theorem rm_stop : ∀ (pre : List Int) {post t : List Int}, rm pre t = none → rm (pre ++ post) t = none
  | [], _, _, h => by cases h
  | y :: r, post, t, h => by
    show (if t.any (· == y) = true then rm (r ++ post) (t.erase y) else none) = none
    have h' : (if t.any (· == y) = true then rm r (t.erase y) else none) = none := h
    split
    · rename_i hy; rw [if_pos hy] at h'; exact rm_stop r h'
    · rfl
theorem rm_len : ∀ (pre : List Int) {t u : List Int}, rm pre t = some u → u.length ≤ t.length
  | [], t, u, h => by cases h; exact Nat.le_refl _
  | y :: r, t, u, h => by
    have h' : (if t.any (· == y) = true then rm r (t.erase y) else none) = some u := h
    split at h'
    · exact Nat.le_trans (rm_len r h') List.length_erase_le
    · cases h'
/-- what _compare_args_orderless tells -/
def cmpL (ns ms : List Int) : Bool := match rm (dd ns) (dd ms) with | some t => t.isEmpty | none => false
theorem cmpL_none {ns ms pre post : List Int} {k : Int} {u : List Int} (e : dd ns = pre ++ k :: post) (h : rm pre (dd ms) = some u) (hk : u.any (· == k) = false) : cmpL ns ms = false := by
  have e2 : pre ++ k :: post = (pre ++ [k]) ++ post := by simp
  unfold cmpL
  rw [e, e2, rm_stop (pre ++ [k]) (by rw [rm_snoc, h]; show (if u.any (· == k) = true then _ else _) = _; rw [if_neg (by rw [hk]; exact Bool.false_ne_true)])]
theorem cmpL_some {ns ms u : List Int} (h : rm (dd ns) (dd ms) = some u) : cmpL ns ms = u.isEmpty := by unfold cmpL; rw [h]
end Mine
end

section
namespace Mine
def laidL (ns : List Int) (x : Int) : List Int :=
  ns.take (ns.filter fun a => decide (a ≤ x)).length ++ [x] ++ ns.drop (ns.filter fun a => decide (a ≤ x)).length
/-- a turn of _law_firsts' comprehension -/
def firstsG (ns : List Int) (l : List Int) (k : Int) : List Int := if (ns.take k.toNat).any (· == ns.getD k.toNat 0) = true then l else l ++ [ns.getD k.toNat 0]
end Mine
end

section
namespace Mine
def deedV (ns : List Int) (x one : Int) : Int := if x.fmod 4 = 2 then ns.getD 0 0 else if (x.fdiv 20).fmod 2 = 1 then ns.getD 0 0 else ppV ns one
def deedL (ns : List Int) (x one : Int) : List Int := if x.fmod 4 = 2 then popL ns else if (x.fdiv 20).fmod 2 = 1 then replL ns one else ppL ns one
def dueL (ns : List Int) (x one : Int) : List Int := if x.fmod 4 = 2 then ns else if (x.fdiv 20).fmod 2 = 1 then ns.take 1 ++ laidL (ns.drop 1) one else laidL ns one
end Mine
end

section
namespace Mine
theorem any_iff {l : List Int} {x : Int} : l.any (· == x) = true ↔ x ∈ l := by
  rw [List.any_eq_true]
  constructor
  · rintro ⟨y, hy, e⟩; rw [← beq_iff_eq.mp e]; exact hy
  · intro h; exact ⟨x, h, by simp⟩
theorem any_false_iff {l : List Int} {x : Int} : l.any (· == x) = false ↔ x ∉ l := by
  rw [← any_iff, Bool.not_eq_true]
theorem snoc_ind {P : List Int → Prop} (h0 : P []) (hs : ∀ l x, P l → P (l ++ [x])) : ∀ l, P l := by
  intro l
  have key : ∀ n, ∀ l : List Int, l.length = n → P l := by
    intro n
    induction n with
    | zero => intro l h; rw [List.length_eq_zero_iff.mp h]; exact h0
    | succ n ih =>
      intro l h
      have hl : l ≠ [] := by intro e; rw [e] at h; cases h
      have e := List.dropLast_concat_getLast hl
      rw [← e]
      exact hs _ _ (ih _ (by rw [List.length_dropLast]; omega))
  exact key _ l rfl
theorem mem_dd : ∀ (l : List Int) (x : Int), x ∈ dd l ↔ x ∈ l := by
  intro l
  refine snoc_ind (P := fun l => ∀ x, x ∈ dd l ↔ x ∈ l) (fun x => Iff.rfl) (fun l y ih x => ?_) l
  by_cases h : (dd l).any (· == y) = true
  · rw [dd_in h, ih, List.mem_append, List.mem_singleton]
    have hy := (ih y).mp (any_iff.mp h)
    constructor
    · exact .inl
    · rintro (q | q)
      · exact q
      · rw [q]; exact hy
  · rw [dd_out h, List.mem_append, List.mem_append, ih]
theorem nodup_dd : ∀ l : List Int, (dd l).Nodup := by
  refine snoc_ind (P := fun l => (dd l).Nodup) List.nodup_nil (fun l y ih => ?_)
  by_cases h : (dd l).any (· == y) = true
  · rw [dd_in h]; exact ih
  · rw [dd_out h, List.nodup_append]
    refine ⟨ih, by simp, ?_⟩
    intro a ha b hb e
    rw [List.mem_singleton] at hb
    subst hb; subst e
    exact h (any_iff.mpr ha)
theorem rm_spec : ∀ (a t : List Int), a.Nodup → t.Nodup → ((∀ x ∈ a, x ∈ t) → ∃ u, rm a t = some u ∧ u.Nodup ∧ ∀ x, x ∈ u ↔ x ∈ t ∧ x ∉ a) ∧ ((∃ x ∈ a, x ∉ t) → rm a t = none)
  | [], t, _, ht => ⟨fun _ => ⟨t, rfl, ht, fun x => by simp⟩, fun ⟨x, hx, _⟩ => by cases hx⟩
  | y :: a, t, ha, ht => by
    have hya := (List.nodup_cons.mp ha).1
    have ha' := (List.nodup_cons.mp ha).2
    have hte : (t.erase y).Nodup := ht.erase y
    have me : ∀ x, x ∈ t.erase y ↔ x ≠ y ∧ x ∈ t := fun x => ht.mem_erase_iff
    have ih := rm_spec a (t.erase y) ha' hte
    constructor
    · intro h
      have hy : t.any (· == y) = true := any_iff.mpr (h y (by simp))
      obtain ⟨u, hu, hn, hm⟩ := ih.1 (fun x hx => (me x).mpr ⟨fun e => hya (e ▸ hx), h x (List.mem_cons_of_mem _ hx)⟩)
      refine ⟨u, ?_, hn, fun x => ?_⟩
      · show (if t.any (· == y) = true then rm a (t.erase y) else none) = some u
        rw [if_pos hy, hu]
      · rw [hm, me, List.mem_cons, not_or]
        constructor
        · rintro ⟨⟨h1, h2⟩, h3⟩; exact ⟨h2, h1, h3⟩
        · rintro ⟨h2, h1, h3⟩; exact ⟨⟨h1, h2⟩, h3⟩
    · rintro ⟨x, hx, hxt⟩
      show (if t.any (· == y) = true then rm a (t.erase y) else none) = none
      split
      · rename_i hy
        have hyt := any_iff.mp hy
        refine ih.2 ?_
        rcases List.mem_cons.mp hx with e | hx
        · exact absurd (e ▸ hyt) hxt
        · exact ⟨x, hx, fun q => hxt ((me x).mp q).2⟩
      · rfl
theorem cmpL_true {a b : List Int} (h : ∀ x, x ∈ a ↔ x ∈ b) : cmpL a b = true := by
  obtain ⟨u, hu, _, hm⟩ := (rm_spec (dd a) (dd b) (nodup_dd a) (nodup_dd b)).1 (fun x hx => (mem_dd b x).mpr ((h x).mp ((mem_dd a x).mp hx)))
  rw [cmpL_some hu]
  cases u with
  | nil => rfl
  | cons x r =>
    have := (hm x).mp (by simp)
    exact absurd ((mem_dd a x).mpr ((h x).mpr ((mem_dd b x).mp this.1))) this.2
theorem cmpL_false_left {a b : List Int} {x : Int} (ha : x ∈ a) (hb : x ∉ b) : cmpL a b = false := by
  have h := (rm_spec (dd a) (dd b) (nodup_dd a) (nodup_dd b)).2 ⟨x, (mem_dd a x).mpr ha, fun q => hb ((mem_dd b x).mp q)⟩
  unfold cmpL; rw [h]
theorem cmpL_false_right {a b : List Int} {x : Int} (hs : ∀ y ∈ a, y ∈ b) (ha : x ∉ a) (hb : x ∈ b) : cmpL a b = false := by
  obtain ⟨u, hu, _, hm⟩ := (rm_spec (dd a) (dd b) (nodup_dd a) (nodup_dd b)).1 (fun y hy => (mem_dd b y).mpr (hs y ((mem_dd a y).mp hy)))
  rw [cmpL_some hu]
  have := (hm x).mpr ⟨(mem_dd b x).mpr hb, fun q => ha ((mem_dd a x).mp q)⟩
  cases u with
  | nil => cases this
  | cons _ _ => rfl
/-- without the first of the once-list it is not the same -/
theorem cmpL_drop_left {hs rs : List Int} (h : ∀ x, x ∈ hs ↔ x ∈ rs) (hn : dd rs ≠ []) : cmpL hs ((dd rs).drop 1) = false := by
  cases e : dd rs with
  | nil => exact absurd e hn
  | cons y r =>
    have hnd := nodup_dd rs
    rw [e] at hnd
    have hy : y ∈ rs := (mem_dd rs y).mp (by rw [e]; simp)
    exact cmpL_false_left ((h y).mpr hy) (by simpa using (List.nodup_cons.mp hnd).1)
theorem cmpL_drop_right {hs rs : List Int} (h : ∀ x, x ∈ hs ↔ x ∈ rs) (hn : dd rs ≠ []) : cmpL ((dd rs).drop 1) hs = false := by
  cases e : dd rs with
  | nil => exact absurd e hn
  | cons y r =>
    have hnd := nodup_dd rs
    rw [e] at hnd
    have hy : y ∈ rs := (mem_dd rs y).mp (by rw [e]; simp)
    refine cmpL_false_right (x := y) (fun z hz => (h z).mpr ((mem_dd rs z).mp ?_)) (by simpa using (List.nodup_cons.mp hnd).1) ((h y).mpr hy)
    rw [e]; exact List.mem_cons_of_mem _ (by simpa using hz)
theorem firsts_range (ns : List Int) : ∀ i, i ≤ ns.length → ((List.range i).map fun (j : Nat) => (0 : Int) + (j : Int)).foldl (firstsG ns) [] = dd (ns.take i) := by
  intro i
  induction i with
  | zero => intro _; rw [List.take_zero]; rfl
  | succ i ih =>
    intro hi
    have hx : ns[i]? = some ns[i] := by simp [show i < ns.length by omega]
    have et : ns.take (i + 1) = ns.take i ++ [ns[i]] := by rw [List.take_add_one, hx]; rfl
    rw [List.range_succ, List.map_append, List.foldl_append, ih (by omega), et]
    have eg : ns.getD i 0 = ns[i] := by simp [List.getD_eq_getElem?_getD, hx]
    show firstsG ns (dd (ns.take i)) (0 + (i : Int)) = _
    unfold firstsG
    rw [Int.zero_add, Int.toNat_natCast, eg]
    by_cases h : (ns.take i).any (· == ns[i]) = true
    · rw [if_pos h, dd_in (any_iff.mpr ((mem_dd _ _).mpr (any_iff.mp h)))]
    · rw [if_neg h, dd_out (fun q => h (any_iff.mpr ((mem_dd _ _).mp (any_iff.mp q))))]
end Mine
end

section
namespace Mine
theorem gset {xs : List Int} {p : Nat} {v : Int} (h : p < xs.length) (i : Nat) : (xs.set p v).getD i 0 = if i = p then v else xs.getD i 0 := by
  by_cases e : i = p
  · subst e; simp [List.getD_eq_getElem?_getD, h]
  · rw [if_neg e, List.getD_eq_getElem?_getD, List.getD_eq_getElem?_getD, List.getElem?_set_ne (fun q => e q.symm)]
def IsHeap (xs : List Int) : Prop := ∀ i, 0 < i → i < xs.length → xs.getD ((i - 1) / 2) 0 ≤ xs.getD i 0
structure HoleAt (xs : List Int) (p : Nat) : Prop where
  off : ∀ i, 0 < i → i < xs.length → i ≠ p → (i - 1) / 2 ≠ p → xs.getD ((i - 1) / 2) 0 ≤ xs.getD i 0
  over : 0 < p → ∀ i, 0 < i → i < xs.length → (i - 1) / 2 = p → xs.getD ((p - 1) / 2) 0 ≤ xs.getD i 0

theorem sd_heap (x : Int) : ∀ (p : Nat) (xs : List Int), p < xs.length → HoleAt xs p → (∀ i, 0 < i → i < xs.length → (i - 1) / 2 = p → x ≤ xs.getD i 0) → IsHeap (sd x xs p) := by
  intro p
  induction p using Nat.strongRecOn with
  | ind p ih =>
    intro xs hp H hc
    by_cases h : p = 0
    · subst h
      rw [sd_zero]
      intro i hi hl
      rw [List.length_set] at hl
      rw [gset hp, gset hp, if_neg (by omega : i ≠ 0)]
      by_cases hq : (i - 1) / 2 = 0
      · rw [if_pos hq]; exact hc i hi hl hq
      · rw [if_neg hq]; exact H.off i hi hl (by omega) hq
    · by_cases hx : x < xs.getD ((p - 1) / 2) 0
      · rw [sd_up h hx]
        have hq : (p - 1) / 2 < p := by omega
        have hql : (p - 1) / 2 < xs.length := by omega
        refine ih _ hq _ (by rw [List.length_set]; exact hql) ⟨fun i hi hl hne hpar => ?_, fun hq0 i hi hl hpar => ?_⟩ fun i hi hl hpar => ?_
        · rw [List.length_set] at hl
          have hip : i ≠ p := fun e => hpar (by rw [e])
          rw [gset hp, gset hp, if_neg hip]
          by_cases e : (i - 1) / 2 = p
          · rw [if_pos e]; exact H.over (by omega) i hi hl e
          · rw [if_neg e]; exact H.off i hi hl hip e
        · rw [List.length_set] at hl
          have up : xs.getD (((p - 1) / 2 - 1) / 2) 0 ≤ xs.getD ((p - 1) / 2) 0 := H.off _ hq0 hql (by omega) (by omega)
          rw [gset hp, gset hp, if_neg (by omega : ((p - 1) / 2 - 1) / 2 ≠ p)]
          by_cases e : i = p
          · rw [if_pos e]; exact up
          · rw [if_neg e]
            have := H.off i hi hl e (by omega)
            rw [hpar] at this
            omega
        · rw [List.length_set] at hl
          rw [gset hp]
          by_cases e : i = p
          · rw [if_pos e]; omega
          · rw [if_neg e]
            have := H.off i hi hl e (by omega)
            rw [hpar] at this
            omega
      · rw [sd_stop h hx]
        intro i hi hl
        rw [List.length_set] at hl
        rw [gset hp, gset hp]
        by_cases e : i = p
        · rw [if_pos e, if_neg (by omega : (i - 1) / 2 ≠ p), e]; omega
        · rw [if_neg e]
          by_cases e2 : (i - 1) / 2 = p
          · rw [if_pos e2]; exact hc i hi hl e2
          · rw [if_neg e2]; exact H.off i hi hl e e2

theorem child_spec {xs : List Int} {p : Nat} (h : 2 * p + 1 < xs.length) : (child xs p = 2 * p + 1 ∨ child xs p = 2 * p + 2) ∧ child xs p < xs.length ∧ ∀ i, 0 < i → i < xs.length → (i - 1) / 2 = p → xs.getD (child xs p) 0 ≤ xs.getD i 0 := by
  have hl := (child_lt h).1
  refine ⟨by unfold child; split <;> simp, hl, fun i hi hil hp => ?_⟩
  have hi2 : i = 2 * p + 1 ∨ i = 2 * p + 2 := by omega
  unfold child
  split
  · rename_i c
    rcases hi2 with e | e
    · rw [e]; have := c.2; omega
    · rw [e]; exact Int.le_refl _
  · rename_i c
    rcases hi2 with e | e
    · rw [e]; exact Int.le_refl _
    · rw [e]
      rw [e] at hil
      have : ¬ ¬ xs.getD (2 * p + 1) 0 < xs.getD (2 * p + 2) 0 := fun q => c ⟨hil, q⟩
      omega

theorem su_hole : ∀ (k : Nat) {xs : List Int} {p : Nat}, xs.length - p < k → p < xs.length → HoleAt xs p → HoleAt (su xs p).1 (su xs p).2 ∧ ¬ 2 * (su xs p).2 + 1 < xs.length := by
  intro k
  induction k with
  | zero => intro xs p h; omega
  | succ k ih =>
    intro xs p hk hp H
    by_cases h : 2 * p + 1 < xs.length
    · obtain ⟨hc, hcl, hmin⟩ := child_spec h
      rw [su_step h]
      have hpc : (child xs p - 1) / 2 = p := by omega
      have H' : HoleAt (xs.set p (xs.getD (child xs p) 0)) (child xs p) := by
        refine ⟨fun i hi hl hne hpar => ?_, fun _ i hi hl hpar => ?_⟩
        · rw [List.length_set] at hl
          rw [gset hp, gset hp]
          by_cases e : i = p
          · rw [if_pos e, if_neg (by omega : (i - 1) / 2 ≠ p)]
            rw [e]
            exact H.over (by omega) _ (by omega) hcl hpc
          · rw [if_neg e]
            by_cases e2 : (i - 1) / 2 = p
            · rw [if_pos e2]; exact hmin i hi hl e2
            · rw [if_neg e2]; exact H.off i hi hl e e2
        · rw [List.length_set] at hl
          rw [hpc, gset hp, gset hp, if_pos rfl, if_neg (by omega : i ≠ p)]
          have := H.off i hi hl (by omega) (by omega)
          rw [hpar] at this
          exact this
      have := ih (xs := xs.set p (xs.getD (child xs p) 0)) (p := child xs p) (by rw [List.length_set]; omega) (by rw [List.length_set]; exact hcl) H'
      rw [List.length_set] at this
      exact this
    · rw [su_stop h]; exact ⟨H, h⟩

theorem sift_heap {xs : List Int} (h0 : 0 < xs.length) (H : ∀ i, 0 < i → i < xs.length → (i - 1) / 2 ≠ 0 → xs.getD ((i - 1) / 2) 0 ≤ xs.getD i 0) : IsHeap (sift xs) := by
  obtain ⟨Hq, hleaf⟩ := su_hole _ (Nat.lt_succ_self _) h0 ⟨fun i hi hl _ hp => H i hi hl hp, fun h => absurd h (Nat.lt_irrefl 0)⟩
  have hq := su_lt h0
  have hl := su_length h0
  unfold sift
  have hq' : (su xs 0).2 < (su xs 0).1.length := by rw [hl]; exact hq
  refine sd_heap _ _ _ (by rw [List.length_set]; exact hq') ⟨fun i hi hil hne hp => ?_, fun _ i hi hil hp => ?_⟩ fun i hi hil hp => ?_
  · rw [List.length_set] at hil
    rw [gset hq', gset hq', if_neg hne, if_neg hp]
    exact Hq.off i hi hil hne hp
  · rw [List.length_set, hl] at hil; omega
  · rw [List.length_set, hl] at hil; omega

theorem swap_perm {xs : List Int} {p c : Nat} {v : Int} (hp : p < xs.length) (hc : c < xs.length) (hne : p ≠ c) : ((xs.set p (xs.getD c 0)).set c v).Perm (xs.set p v) := by
  have hp' : p < (xs.set p v).length := by rw [List.length_set]; exact hp
  have hc' : c < (xs.set p v).length := by rw [List.length_set]; exact hc
  have h := List.set_set_perm hp' hc'
  have e1 : (xs.set p v)[c] = xs.getD c 0 := by
    rw [List.getElem_set_ne hne]; simp [List.getD_eq_getElem?_getD, hc]
  have e2 : (xs.set p v)[p] = v := by simp
  rw [e1, e2, List.set_set] at h
  exact h
theorem sd_perm (x : Int) : ∀ (p : Nat) (xs : List Int), p < xs.length → (sd x xs p).Perm (xs.set p x) := by
  intro p
  induction p using Nat.strongRecOn with
  | ind p ih =>
    intro xs hp
    by_cases h : p = 0
    · subst h; rw [sd_zero]
    · by_cases hx : x < xs.getD ((p - 1) / 2) 0
      · rw [sd_up h hx]
        exact (ih _ (by omega) _ (by rw [List.length_set]; omega)).trans (swap_perm hp (by omega) (by omega))
      · rw [sd_stop h hx]
theorem su_perm (v : Int) : ∀ (k : Nat) {xs : List Int} {p : Nat}, xs.length - p < k → p < xs.length → ((su xs p).1.set (su xs p).2 v).Perm (xs.set p v) := by
  intro k
  induction k with
  | zero => intro xs p h; omega
  | succ k ih =>
    intro xs p hk hp
    by_cases h : 2 * p + 1 < xs.length
    · have hc := child_lt h
      rw [su_step h]
      exact (ih (by rw [List.length_set]; omega) (by rw [List.length_set]; omega)).trans (swap_perm hp hc.1 (by omega))
    · rw [su_stop h]
theorem sift_perm {xs : List Int} (h0 : 0 < xs.length) : (sift xs).Perm xs := by
  have hq := su_lt h0
  have hl := su_length h0
  unfold sift
  refine (sd_perm _ _ _ (by rw [List.length_set, hl]; exact hq)).trans ?_
  rw [List.set_set]
  refine (su_perm _ _ (Nat.lt_succ_self _) h0).trans ?_
  have : xs.set 0 (xs.getD 0 0) = xs := by
    cases xs with
    | nil => rfl
    | cons a r => rfl
  rw [this]
end Mine
end

section
namespace Mine
theorem heap_min {xs : List Int} (H : IsHeap xs) : ∀ i, i < xs.length → xs.getD 0 0 ≤ xs.getD i 0 := by
  intro i
  induction i using Nat.strongRecOn with
  | ind i ih =>
    intro hi
    by_cases h : i = 0
    · rw [h]; exact Int.le_refl _
    · exact Int.le_trans (ih ((i - 1) / 2) (by omega) (by omega)) (H i (by omega) hi)
theorem heap_le {xs : List Int} (H : IsHeap xs) {y : Int} (hy : y ∈ xs) : xs.getD 0 0 ≤ y := by
  obtain ⟨i, hi, rfl⟩ := List.getElem_of_mem hy
  have := heap_min H i hi
  simpa [List.getD_eq_getElem?_getD, hi] using this
theorem getD_head {xs : List Int} (h : xs ≠ []) : xs.getD 0 0 ∈ xs := by
  cases xs with
  | nil => exact absurd rfl h
  | cons a r => simp
theorem getD_append_left {xs ys : List Int} {i : Nat} (h : i < xs.length) : (xs ++ ys).getD i 0 = xs.getD i 0 := by
  rw [List.getD_eq_getElem?_getD, List.getD_eq_getElem?_getD, List.getElem?_append_left h]

theorem push_heap {ns : List Int} {x : Int} (H : IsHeap ns) : IsHeap (pushL ns x) := by
  unfold pushL
  have hl : (ns ++ [x]).length = ns.length + 1 := by simp
  refine sd_heap x _ _ (by omega) ⟨fun i hi hil hne hp => ?_, fun _ i hi hil hp => ?_⟩ fun i hi hil hp => ?_
  · rw [hl] at hil
    rw [getD_append_left (by omega), getD_append_left (by omega)]
    exact H i hi (by omega)
  · omega
  · omega
theorem push_perm {ns : List Int} {x : Int} : (pushL ns x).Perm (x :: ns) := by
  unfold pushL
  refine (sd_perm x _ _ (by simp)).trans ?_
  have e : (ns ++ [x]).set ns.length x = ns ++ [x] := by
    rw [List.set_append_right _ _ (Nat.le_refl _)]; simp
  rw [e]
  exact List.perm_append_singleton x ns
theorem push_length {ns : List Int} {x : Int} : (pushL ns x).length = ns.length + 1 := by rw [push_perm.length_eq]; rfl

/-- the front thing put by another, sifted -/
theorem repl_heap {ns : List Int} {x : Int} (h : ns ≠ []) (H : IsHeap ns) : IsHeap (replL ns x) := by
  have h0 : 0 < ns.length := List.length_pos_iff.mpr h
  unfold replL
  refine sift_heap (by rw [List.length_set]; exact h0) fun i hi hil hp => ?_
  rw [List.length_set] at hil
  rw [gset h0, gset h0, if_neg hp, if_neg (by omega : i ≠ 0)]
  exact H i hi hil
theorem set_head_perm {ns : List Int} {x : Int} (h : ns ≠ []) : (x :: ns).Perm (ns.getD 0 0 :: ns.set 0 x) := by
  cases ns with
  | nil => exact absurd rfl h
  | cons a r => exact List.Perm.swap a x r
theorem repl_perm {ns : List Int} {x : Int} (h : ns ≠ []) : (x :: ns).Perm (ns.getD 0 0 :: replL ns x) := by
  have h0 : 0 < ns.length := List.length_pos_iff.mpr h
  exact (set_head_perm h).trans (List.Perm.cons _ (sift_perm (by rw [List.length_set]; exact h0)).symm)
theorem pop_heap {ns : List Int} (h : ns ≠ []) (H : IsHeap ns) : IsHeap (popL ns) := by
  unfold popL
  split
  · intro i hi hl; exact absurd hl (Nat.not_lt_zero _)
  · rename_i hd
    have hdl : ns.dropLast.length = ns.length - 1 := List.length_dropLast
    have h0 : 0 < ns.dropLast.length := List.length_pos_iff.mpr hd
    refine sift_heap (by rw [List.length_set]; exact h0) fun i hi hil hp => ?_
    rw [List.length_set] at hil
    rw [gset h0, gset h0, if_neg hp, if_neg (by omega : i ≠ 0)]
    have e : ns = ns.dropLast ++ [ns.getLast h] := (List.dropLast_concat_getLast h).symm
    have g : ∀ j, j < ns.dropLast.length → ns.dropLast.getD j 0 = ns.getD j 0 := fun j hj => by
      conv => rhs; rw [e]
      exact (getD_append_left hj).symm
    rw [g _ (by omega), g _ hil]
    exact H i hi (by omega)
theorem pop_perm {ns : List Int} (h : ns ≠ []) : ns.Perm (ns.getD 0 0 :: popL ns) := by
  have e : ns.dropLast ++ [ns.getLast h] = ns := List.dropLast_concat_getLast h
  unfold popL
  split
  · rename_i hd
    rw [hd] at e
    rw [← e]; exact List.Perm.refl _
  · rename_i hd
    have h0 : 0 < ns.dropLast.length := List.length_pos_iff.mpr hd
    have g0 : ns.dropLast.getD 0 0 = ns.getD 0 0 := getD_dropLast h0
    have gl : ns.getLastD 0 = ns.getLast h := by
      cases ns with
      | nil => exact absurd rfl h
      | cons a r => rfl
    rw [gl, ← g0]
    refine List.Perm.trans ?_ (List.Perm.cons _ (sift_perm (by rw [List.length_set]; exact h0)).symm)
    refine List.Perm.trans ?_ (set_head_perm hd)
    exact List.Perm.trans (List.Perm.of_eq e.symm) (List.perm_append_singleton _ _)
theorem pp_perm {ns : List Int} {x : Int} : (x :: ns).Perm (ppV ns x :: ppL ns x) := by
  unfold ppV ppL
  by_cases c : ns ≠ [] ∧ ns.getD 0 0 < x
  · rw [if_pos c, if_pos c]; exact repl_perm c.1
  · rw [if_neg c, if_neg c]
theorem pp_heap {ns : List Int} {x : Int} (H : IsHeap ns) : IsHeap (ppL ns x) := by
  unfold ppL
  by_cases c : ns ≠ [] ∧ ns.getD 0 0 < x
  · rw [if_pos c]; exact repl_heap c.1 H
  · rw [if_neg c]; exact H
theorem pp_le {ns : List Int} {x : Int} (H : IsHeap ns) : ∀ y ∈ x :: ns, ppV ns x ≤ y := by
  intro y hy
  unfold ppV
  by_cases c : ns ≠ [] ∧ ns.getD 0 0 < x
  · rw [if_pos c]
    rcases List.mem_cons.mp hy with e | hy
    · rw [e]; omega
    · exact heap_le H hy
  · rw [if_neg c]
    rcases List.mem_cons.mp hy with e | hy
    · rw [e]; exact Int.le_refl _
    · have h1 := heap_le H hy
      have hn : ns ≠ [] := List.ne_nil_of_mem hy
      have : ¬ ns.getD 0 0 < x := fun q => c ⟨hn, q⟩
      omega

abbrev Rising (l : List Int) : Prop := l.Pairwise (· ≤ ·)
theorem filter_take {l : List Int} {x : Int} (h : Rising l) : l.filter (fun a => decide (a ≤ x)) = l.take (l.filter fun a => decide (a ≤ x)).length := by
  induction l with
  | nil => rfl
  | cons a r ih =>
    have hr := (List.pairwise_cons.mp h)
    by_cases c : a ≤ x
    · rw [List.filter_cons_of_pos (by simpa using c), List.length_cons, List.take_succ_cons, ← ih hr.2]
    · have e : r.filter (fun a => decide (a ≤ x)) = [] := by
        rw [List.filter_eq_nil_iff]
        intro b hb
        have := hr.1 b hb
        simp; omega
      rw [List.filter_cons_of_neg (by simpa using c), e]; rfl
theorem laid_perm {l : List Int} {x : Int} : (laidL l x).Perm (x :: l) := by
  unfold laidL
  have e : l.take (l.filter fun a => decide (a ≤ x)).length ++ l.drop (l.filter fun a => decide (a ≤ x)).length = l := List.take_append_drop _ _
  refine List.Perm.trans ?_ (List.Perm.cons x (List.Perm.of_eq e))
  rw [List.append_assoc]
  exact List.perm_middle
theorem laid_rising {l : List Int} {x : Int} (h : Rising l) : Rising (laidL l x) := by
  unfold laidL
  have hd : ∀ b ∈ l.drop (l.filter fun a => decide (a ≤ x)).length, x < b := by
    induction l with
    | nil => intro b hb; simp at hb
    | cons a r ih =>
      have hr := (List.pairwise_cons.mp h)
      by_cases c : a ≤ x
      · rw [List.filter_cons_of_pos (by simpa using c), List.length_cons, List.drop_succ_cons]
        exact ih hr.2
      · have e : r.filter (fun a => decide (a ≤ x)) = [] := by
          rw [List.filter_eq_nil_iff]
          intro b hb
          have := hr.1 b hb
          simp; omega
        rw [List.filter_cons_of_neg (by simpa using c), e, List.length_nil, List.drop_zero]
        intro b hb
        rcases List.mem_cons.mp hb with q | hb
        · rw [q]; omega
        · have := hr.1 b hb; omega
  have ht : ∀ a ∈ l.take (l.filter fun a => decide (a ≤ x)).length, a ≤ x := by
    intro a ha
    rw [← filter_take h] at ha
    simpa using (List.mem_filter.mp ha).2
  have hs : Rising (l.take (l.filter fun a => decide (a ≤ x)).length ++ l.drop (l.filter fun a => decide (a ≤ x)).length) := by rw [List.take_append_drop]; exact h
  have hs := List.pairwise_append.mp hs
  unfold Rising
  rw [List.pairwise_append, List.pairwise_append]
  refine ⟨⟨hs.1, List.pairwise_singleton _ _, fun a ha b hb => ?_⟩, hs.2.1, fun a ha b hb => ?_⟩
  · rw [List.mem_singleton] at hb; rw [hb]; exact ht a ha
  · rcases List.mem_append.mp ha with ha | ha
    · exact hs.2.2 a ha b hb
    · rw [List.mem_singleton] at ha; rw [ha]; exact Int.le_of_lt (hd b hb)
theorem rising_le {l : List Int} (h : Rising l) {y : Int} (hy : y ∈ l) : l.getD 0 0 ≤ y := by
  cases l with
  | nil => cases hy
  | cons a r =>
    rcases List.mem_cons.mp hy with e | hy
    · rw [e]; exact Int.le_refl _
    · exact (List.pairwise_cons.mp h).1 y hy
theorem head_drop {l : List Int} (h : l ≠ []) : l.getD 0 0 :: l.drop 1 = l := by
  cases l with
  | nil => exact absurd rfl h
  | cons a r => rfl

/-- what holds between the law's turns -/
structure Good (hs rs : List Int) : Prop where
  heap : IsHeap hs
  perm : hs.Perm rs
  rise : Rising rs
theorem Good.nil : Good [] [] := ⟨fun i _ h => absurd h (Nat.not_lt_zero _), List.Perm.refl _, List.Pairwise.nil⟩
theorem Good.len {hs rs : List Int} (g : Good hs rs) : hs.length = rs.length := g.perm.length_eq
theorem Good.set {hs rs : List Int} (g : Good hs rs) : ∀ x, x ∈ hs ↔ x ∈ rs := fun x => g.perm.mem_iff
theorem min_eq {l k : List Int} {a b : Int} (hp : l.Perm k) (ha : a ∈ l) (hb : b ∈ k) (hla : ∀ y ∈ l, a ≤ y) (hlb : ∀ y ∈ k, b ≤ y) : a = b := by
  have h1 := hla b (hp.mem_iff.mpr hb)
  have h2 := hlb a (hp.mem_iff.mp ha)
  omega
theorem Good.head {hs rs : List Int} (g : Good hs rs) (h : rs ≠ []) : hs.getD 0 0 = rs.getD 0 0 := by
  have hh : hs ≠ [] := fun e => h (by have := g.len; rw [e] at this; exact List.length_eq_zero_iff.mp this.symm)
  exact min_eq g.perm (getD_head hh) (getD_head h) (fun y hy => heap_le g.heap hy) (fun y hy => rising_le g.rise hy)
theorem Good.take1 {hs rs : List Int} (g : Good hs rs) : hs.take 1 = rs.take 1 := by
  by_cases h : rs = []
  · have hh : hs = [] := by have := g.len; rw [h] at this; exact List.length_eq_zero_iff.mp this
    rw [h, hh]
  · have hh : hs ≠ [] := fun e => h (by have := g.len; rw [e] at this; exact List.length_eq_zero_iff.mp this.symm)
    have e := g.head h
    rw [← head_drop hh, ← head_drop h, List.take_succ_cons, List.take_succ_cons, e]; rfl
theorem Good.push {hs rs : List Int} (g : Good hs rs) (x : Int) : Good (pushL hs x) (laidL rs x) :=
  ⟨push_heap g.heap, push_perm.trans ((List.Perm.cons x g.perm).trans laid_perm.symm), laid_rising g.rise⟩
theorem Good.deed {hs rs : List Int} (g : Good hs rs) (h : rs ≠ []) (x one : Int) : deedV hs x one = (dueL rs x one).getD 0 0 ∧ Good (deedL hs x one) ((dueL rs x one).drop 1) ∧ dueL rs x one ≠ [] := by
  have hh : hs ≠ [] := fun e => h (by have := g.len; rw [e] at this; exact List.length_eq_zero_iff.mp this.symm)
  have hd := g.head h
  have rr : Rising (rs.drop 1) := List.Pairwise.drop g.rise
  unfold deedV deedL dueL
  by_cases c1 : x.fmod 4 = 2
  · rw [if_pos c1, if_pos c1, if_pos c1]
    refine ⟨hd, ⟨pop_heap hh g.heap, ?_, rr⟩, h⟩
    have p1 := (pop_perm hh).symm.trans (g.perm.trans (List.Perm.of_eq (head_drop h).symm))
    rw [hd] at p1
    exact List.Perm.cons_inv p1
  · rw [if_neg c1, if_neg c1, if_neg c1]
    by_cases c2 : (x.fdiv 20).fmod 2 = 1
    · rw [if_pos c2, if_pos c2, if_pos c2]
      have et : rs.take 1 = [rs.getD 0 0] := by
        cases rs with
        | nil => exact absurd rfl h
        | cons a r => rfl
      rw [et]
      refine ⟨hd, ⟨repl_heap hh g.heap, ?_, ?_⟩, by simp⟩
      · show (replL hs one).Perm (laidL (rs.drop 1) one)
        have p1 := (repl_perm (x := one) hh).symm.trans (List.Perm.cons one (g.perm.trans (List.Perm.of_eq (head_drop h).symm)))
        rw [hd] at p1
        exact (List.Perm.cons_inv (p1.trans (List.Perm.swap _ _ _))).trans laid_perm.symm
      · exact laid_rising rr
    · rw [if_neg c2, if_neg c2, if_neg c2]
      have hl : laidL rs one ≠ [] := by
        intro e
        have := (laid_perm (l := rs) (x := one)).length_eq
        rw [e] at this
        cases this
      have hr := laid_rising (x := one) g.rise
      have p0 : (one :: hs).Perm (laidL rs one) := (List.Perm.cons one g.perm).trans laid_perm.symm
      have ev : ppV hs one = (laidL rs one).getD 0 0 := min_eq p0 (pp_perm.mem_iff.mpr (by simp)) (getD_head hl) (pp_le g.heap) (fun y hy => rising_le hr hy)
      refine ⟨ev, ⟨pp_heap g.heap, ?_, List.Pairwise.drop hr⟩, hl⟩
      have p1 := (pp_perm (ns := hs) (x := one)).symm.trans (p0.trans (List.Perm.of_eq (head_drop hl).symm))
      rw [ev] at p1
      exact List.Perm.cons_inv p1
end Mine
end

section
namespace Mine
theorem laid_len (rs : List Int) (x : Int) : (laidL rs x).length = rs.length + 1 := (laid_perm (l := rs) (x := x)).length_eq
theorem due_len {rs : List Int} (h : rs ≠ []) (x one : Int) : (dueL rs x one).length ≤ rs.length + 1 := by
  have : 0 < rs.length := List.length_pos_iff.mpr h
  unfold dueL
  split
  · omega
  · split
    · rw [List.length_append, laid_len, List.length_take, List.length_drop]; omega
    · rw [laid_len]; omega
end Mine
end

section
open PySem PySem.W PyProof.Rows
set_option Elab.async false
namespace Mine
set_option maxRecDepth 100000 in
set_option maxHeartbeats 8000000 in
open_top hd for PySem.Challenge.rw_mq0166_01
end Mine
end

section
open PySem PySem.W PyProof.Rows PySem.Calls
set_option Elab.async false
set_option maxRecDepth 100000
namespace Mine

/-- what a call finds: all of g stays, these objects beside it -/
def Beside (g h : Heap) (news : List (Addr × Obj)) : Prop := ∀ p ∈ news, h.get? p.1 = some p.2 ∧ g.get? p.1 = none

section
variable {prog : Program} {w : World} {A : Around} {E : Value → Shared → Prop} {s : Shared} {base g : Heap} {outer : List Env} {K : Frag} {news : List (Addr × Obj)}
  {Q : Value → Shared → Prop} {name qual : Str} {params : Arguments} {body : List Stmt} {scope : Scope} {dV kV doc pm cdv ct oc : Value} {an od : Option Addr} {osl : Array (Option Value)} {f : Addr} {pos : List Value} {kw : List (Str × Value)} {binds : List (Str × Value)}

theorem enter (X : K.In g) (hlim : g.NoLimit) (st : g.StaysIn s.heap) (hsz : g.objs.size ≤ s.heap.objs.size) (N : Beside g s.heap news)
    (ho : K.lookup f = some ⟨oc, od, .func (fnOf name qual params body scope dV kV doc pm an cdv ct), osl⟩) (hcd : codeIn K cdv qual = true) (hroom : A.depth < recursionLimit)
    (hbind : BindsTo s (fnOf name qual params body scope dV kV doc pm an cdv ct) ⟨pos, kw⟩ binds) (hloc : ∀ y ∈ binds, scope.names.lookup y.1 = some .local)
    (h : ∀ L' h₁, Fr g L' h₁ (fun y => binds.reverse.lookup y) → News g L' h₁ news → (∀ p ∈ news, p.1 < L') →
      wpAny (model prog w) (A.deeper (envOf qual scope L' f cdv)) (execs body (envOf qual scope L' f cdv))
        (fun fl s' => Q (match fl with | .ret v => v | _ => .none) s')
        (fun e s' => wpAny (model prog w) (A.deeper (envOf qual scope L' f cdv)) (leaving (envOf qual scope L' f cdv) e) (fun _ s'' => E e s'') (fun e' s'' => E e' s'') s')
        { s with heap := h₁, toks := s.toks + binds.length })
    (hco : scope.isCoroutine = false) (hgen : scope.isGenerator = false) (hk : scope.kind = .function)
    (hcell : ∀ x ∈ scope.names, x.2 ≠ .cell) : wpAny (model prog w) A (call (.ref f) pos kw) Q E s := by
  refine wpAny_call (codeAny_call_def (fd := fnOf name qual params body scope dV kV doc pm an cdv ct) (body := body) (binds := binds) hroom ((X.keeps st) _ _ ho) rfl (hlim.keeps st) (codeRec_of (X.keeps st) hcd) rfl hbind hcell hloc (fun h₁ hns hk₁ => ?_) hco hgen hk)
  exact h s.heap.objs.size h₁ ⟨hns, fun b o e => hk₁ b o (st b o e), hsz⟩ (fun p hp => ⟨hk₁ _ _ (N p hp).1, Nat.ne_of_lt (Heap.lt_size (N p hp).1), (N p hp).2⟩) (fun p hp => Heap.lt_size (N p hp).1)

theorem enterC (X : K.In g) (hlim : g.NoLimit) (st : g.StaysIn s.heap) (hsz : g.objs.size ≤ s.heap.objs.size) (N : Beside g s.heap news)
    (ho : K.lookup f = some ⟨oc, od, .func (fnOf name qual params body scope dV kV doc pm an cdv ct), osl⟩) (hcd : codeIn K cdv qual = true) (hroom : A.depth < recursionLimit)
    (hbind : BindsTo s (fnOf name qual params body scope dV kV doc pm an cdv ct) ⟨pos, kw⟩ binds) (hkind : (binds.all fun y => scope.names.lookup y.1 == some .local || scope.names.lookup y.1 == some .cell) = true)
    (hnd : ((cellsFrom 0 scope.names []).map (·.1)).Nodup)
    (h : ∀ L' h₁ tk cells, Fr g L' h₁ (bindL (envOfC qual scope L' f cdv).kindOf binds fun _ => none) → News g L' h₁ (cells ++ news) →
      CellsAre (bindC (envOfC qual scope L' f cdv).kindOf binds fun _ => none) (cellsFrom (L' + 1) scope.names []) cells → (∀ p ∈ news, p.1 < L') →
      wpAny (model prog w) (A.deeper (envOfC qual scope L' f cdv)) (execs body (envOfC qual scope L' f cdv))
        (fun fl s' => Q (match fl with | .ret v => v | _ => .none) s')
        (fun e s' => wpAny (model prog w) (A.deeper (envOfC qual scope L' f cdv)) (leaving (envOfC qual scope L' f cdv) e) (fun _ s'' => E e s'') (fun e' s'' => E e' s'') s')
        { s with heap := h₁, toks := tk })
    (hco : scope.isCoroutine = false) (hgen : scope.isGenerator = false) (hk : scope.kind = .function) : wpAny (model prog w) A (call (.ref f) pos kw) Q E s := by
  refine wpAny_call (codeAny_call_function hroom ((X.keeps st) _ _ ho) rfl hco hgen rfl (codeRec_of (X.keeps st) hcd) (hbind _ _ _ _ ?_))
  refine wpAny_newFunctionEnv_cells hk (kindsX hkind _) fun env' he s' x => ?_
  subst he
  refine ⟨(hlim.keeps st).keeps x.toInCall.keep, codeAny_func ?_⟩
  obtain ⟨h₁, tk, rfl, _⟩ := x.done
  have hk₁ := x.toInCall.keep
  obtain ⟨cells, NC, Y⟩ := Cl.news (h₀ := s.heap) (Nat.le_refl _) fun n c hm => ⟨x.cell n c (lookup_of_mem_nodup (cellsFrom_names scope.names 0 (s.heap.objs.size + 1) [] [] rfl ▸ hnd) hm), x.above n c hm⟩
  refine h s.heap.objs.size h₁ tk cells ⟨x.toInCall.ns, fun b o e => hk₁ b o (st b o e), hsz⟩ (fun p hp => ?_) Y (fun p hp => Heap.lt_size (N p hp).1)
  rcases List.mem_append.mp hp with hp | hp
  · refine ⟨(NC p hp).1, (NC p hp).2.1, ?_⟩
    cases q : g.get? p.1 with
    | none => rfl
    | some o => have := st _ _ q; rw [(NC p hp).2.2] at this; cases this
  · exact ⟨hk₁ _ _ (N p hp).1, Nat.ne_of_lt (Heap.lt_size (N p hp).1), (N p hp).2⟩
end

/-- the ground under a call made from a frame: what is touched is hidden, all else stays -/
theorem ground {h₀ h : Heap} {L : Addr} {m : Str → Option Value} {news : List (Addr × Obj)} (touched : List Addr)
    (F : Fr h₀ L h m) (N : News h₀ L h news) (ht : ∀ a ∈ touched, ∃ o, (a, o) ∈ news) :
    h₀.StaysIn (hideAll h touched) ∧ (hideAll h touched).StaysIn h ∧ (hideAll h touched).objs.size ≤ h.objs.size ∧
      (∀ p ∈ news, p.1 ∈ touched → h.get? p.1 = some p.2 ∧ (hideAll h touched).get? p.1 = none) ∧
      ∀ h', (hideAll h touched).StaysIn h' → Fr h₀ L h' m ∧ ∀ p ∈ news, (p.1 ∉ touched → h'.get? p.1 = some p.2) ∧ p.1 ≠ L ∧ h₀.get? p.1 = none := by
  have nm : ∀ b o, h₀.get? b = some o → b ∉ touched := fun b o e q => by
    obtain ⟨x, hx⟩ := ht b q
    have := (N _ hx).2.2
    rw [this] at e; cases e
  have st : h₀.StaysIn (hideAll h touched) := fun b o e => hideAll_get _ (F.keep b o e) (nm b o e)
  obtain ⟨oL, es, ep, hL, hLd, hLk, hLf⟩ := F.ns
  have nL : L ∉ touched := fun q => by
    obtain ⟨x, hx⟩ := ht L q
    exact (N _ hx).2.1 rfl
  have hLg := hideAll_get touched hL nL
  exact ⟨st, fun b o e => of_hideAll _ e, Nat.le_of_eq (hideAll_size _ _), fun p hp hq => ⟨(N p hp).1, hideAll_none _ hq⟩, fun h' k => ⟨⟨⟨oL, es, ep, k _ _ hLg, hLd, hLk, hLf⟩, fun b o e => k _ _ (st _ _ e), F.above⟩, fun p hp => ⟨fun hq => k _ _ (hideAll_get _ (N p hp).1 hq), (N p hp).2⟩⟩⟩
end Mine
end

section
open PySem PySem.W PyProof.Rows PySem.Calls
set_option Elab.async false
set_option maxRecDepth 100000
namespace Mine

theorem beside_of {g h : Heap} {L : Addr} {news : List (Addr × Obj)} (N : News g L h news) : Beside g h news := fun p hp => ⟨(N p hp).1, (N p hp).2.2⟩

theorem beside_two {g h : Heap} {L : Addr} {p q : Addr × Obj} {r : List (Addr × Obj)} (N : News g L h (p :: r)) (hq : q ∈ p :: r) : Beside g h [p, q] := fun x hx => by
  simp only [List.mem_cons, List.not_mem_nil, or_false] at hx
  rcases hx with rfl | rfl
  · exact beside_of N _ (.head _)
  · exact beside_of N _ hq

/-- what stands around a call: no exception is handled -/
abbrev At (dp un : Nat) (gd : Option (List Code)) (outer : List Env) : Around := { handled := none, depth := dp, frames := some outer, guards := gd, units := un }

/-- a def's contract: what it finds beside g, what it leaves; all of g stays -/
def Does (w : World) (f : Addr) (args : List Value) (pre : List (Addr × Obj)) (post : Value → List (Addr × Obj) → Prop) (dep : Nat) : Prop :=
  ∀ (mg mb : Str → Option Value) (loose : List Str) (mean : ExcName → Option Value) (dp un : Nat) (gd : Option (List Code)) (g : Heap) (outer : List Env) (s : Shared) (Q E : Value → Shared → Prop),
    (hd.heap_39 w.params).In g → Top hd.view_39 loose mean mg mb g → g.StaysIn s.heap → g.objs.size ≤ s.heap.objs.size → dp + dep < 1000 → un + 20 * dep < 9900 → Beside g s.heap pre →
    (∀ v h' tk new, g.StaysIn h' → Beside g h' new → post v new → Q v { s with heap := h', toks := tk }) →
    wpAny (model PySem.Challenge.rw_mq0166_01.row.prog w) (At dp un gd outer) (call (.ref f) args) Q E s

/-- what of the ledger is not named by these addresses -/
inductive Rest (as : List Addr) : List (Addr × Obj) → List (Addr × Obj) → Prop
  | nil : Rest as [] []
  | skip {p r r'} : p.1 ∈ as → Rest as r r' → Rest as (p :: r) r'
  | keep {p r r'} : (∀ a ∈ as, @Ne Nat p.1 a) → Rest as r r' → Rest as (p :: r) (p :: r')
theorem Rest.spec {as : List Addr} : ∀ {l l' : List (Addr × Obj)}, Rest as l l' → ∀ p ∈ l', p ∈ l ∧ p.1 ∉ as
  | _, _, .nil, _, h => nomatch h
  | _, _, .skip _ r, p, h => let ⟨a, b⟩ := r.spec p h; ⟨.tail _ a, b⟩
  | _, _, .keep hk r, p, h => by
    rcases List.mem_cons.mp h with rfl | h
    · exact ⟨.head _, fun q => hk _ q rfl⟩
    · obtain ⟨a, b⟩ := r.spec p h
      exact ⟨.tail _ a, b⟩

def Apart (new rest : List (Addr × Obj)) : Prop := ∀ p ∈ new, ∀ q ∈ rest, @Ne Nat p.1 q.1

theorem does_use {w : World} {f : Addr} {args : List Value} {pre : List (Addr × Obj)} {post : Value → List (Addr × Obj) → Prop} {dep : Nat}
    {mg mb : Str → Option Value} {loose : List Str} {mean : ExcName → Option Value} {A : Around} {dp un : Nat} {gd : Option (List Code)} {h₀ : Heap} {outer : List Env} {s : Shared} {Q E : Value → Shared → Prop} {L : Addr} {m : Str → Option Value} {news rest : List (Addr × Obj)}
    (S : Does w f args pre post dep) (F : Fr h₀ L s.heap m) (X : (hd.heap_39 w.params).In h₀) (N : News h₀ L s.heap news) (T : Top hd.view_39 loose mean mg mb h₀)
    (hA : A = At dp un gd outer) (hdp : dp + dep < 1000) (hun : un + 20 * dep < 9900)
    (hpre : ∀ p ∈ pre, p ∈ news) (hr : Rest (pre.map Prod.fst) news rest)
    (ret : ∀ v h' tk new, post v new → Fr h₀ L h' m → News h₀ L h' (new ++ rest) → Apart new rest → Q v { s with heap := h', toks := tk }) :
    wpAny (model PySem.Challenge.rw_mq0166_01.row.prog w) A (call (.ref f) args) Q E s := by
  subst hA
  obtain ⟨gS, gH, gZ, gT, gK⟩ := ground (pre.map Prod.fst) F N (fun a ha => by
    obtain ⟨p, hp, rfl⟩ := List.mem_map.mp ha
    exact ⟨p.2, hpre p hp⟩)
  refine S mg mb loose mean dp un gd (hideAll s.heap (pre.map Prod.fst)) outer s Q E (X.keeps gS) (T.keeps gS) gH gZ hdp hun (fun p hp => gT p (hpre p hp) (List.mem_map_of_mem hp)) fun v h' tk new st bs po => ?_
  obtain ⟨F', N'⟩ := gK h' st
  have hL : ∃ o, (hideAll s.heap (pre.map Prod.fst)).get? L = some o := by
    obtain ⟨oL, es, ep, hL, _⟩ := F.ns
    refine ⟨oL, hideAll_get _ hL fun q => ?_⟩
    obtain ⟨p, hp, e⟩ := List.mem_map.mp q
    exact (N p (hpre p hp)).2.1 e
  refine ret v h' tk new po F' (fun p hp => ?_) (fun p hp q hq e => ?_)
  · rcases List.mem_append.mp hp with hp | hp
    · refine ⟨(bs p hp).1, fun e => ?_, ?_⟩
      · obtain ⟨o, ho⟩ := hL
        rw [← e, (bs p hp).2] at ho; cases ho
      · cases q : h₀.get? p.1 with
        | none => rfl
        | some o => have := gS _ _ q; rw [(bs p hp).2] at this; cases this
    · obtain ⟨hq, hn⟩ := hr.spec p hp
      exact ⟨(N' p hq).1 hn, (N' p hq).2⟩
  · obtain ⟨hq', hn⟩ := hr.spec q hq
    have z := hideAll_get (pre.map Prod.fst) (N q hq').1 hn
    have e' : p.1 = q.1 := e
    rw [← e', (bs p hp).2] at z; cases z

/-- the walk stands still here -/
def Halt (P : Prop) : Prop := P
theorem halt {P : Prop} (h : Halt P) : P := h
theorem Halt.go {P : Prop} (h : P) : Halt P := h
end Mine
end

section
open PySem PySem.W PyProof.Rows PySem.Calls
set_option Elab.async false
set_option maxRecDepth 100000
namespace Mine

/-- a contract of a def that may note an exception: the frames' own slots may turn -/
def DoesF (w : World) (f : Addr) (args : List Value) (pre : List (Addr × Obj)) (post : Value → List (Addr × Obj) → Prop) (dep n : Nat) : Prop :=
  ∀ (mg mb : Str → Option Value) (mean : ExcName → Option Value) (dp un : Nat) (gd : Option (List Code)) (g : Heap) (outer : List Env) (frs : List (Addr × Obj)) (s : Shared) (Q E : Value → Shared → Prop),
    (hd.heap_39 w.params).In g → Top hd.view_39 (looseW hd.view_39 [Str.ofString "_deduplicate"]) mean mg mb g → g.StaysIn s.heap → g.objs.size ≤ s.heap.objs.size → dp + dep < 1000 → un + 20 * dep < 9900 →
    TI.Frs outer frs → outer.length = n → Beside g s.heap (pre ++ frs) → Apart pre frs →
    (∀ v h' tk new frs', g.StaysIn h' → TI.SameUp frs frs' → Beside g h' (new ++ frs') → Apart new frs' → post v new → Q v { s with heap := h', toks := tk }) →
    wpAny (model PySem.Challenge.rw_mq0166_01.row.prog w) (At dp un gd outer) (call (.ref f) args) Q E s

theorem doesF_use {w : World} {f : Addr} {args : List Value} {pre : List (Addr × Obj)} {post : Value → List (Addr × Obj) → Prop} {dep n : Nat}
    {mg mb : Str → Option Value} {mean : ExcName → Option Value} {A : Around} {dp un : Nat} {gd : Option (List Code)} {h₀ : Heap} {outer : List Env} {s : Shared} {Q E : Value → Shared → Prop} {L : Addr} {m : Str → Option Value} {env : Env} {news rest frs : List (Addr × Obj)}
    (S : DoesF w f args pre post dep n) (F : Fr h₀ L s.heap m) (X : (hd.heap_39 w.params).In h₀) (N : News h₀ L s.heap news) (T : Top hd.view_39 (looseW hd.view_39 [Str.ofString "_deduplicate"]) mean mg mb h₀)
    (hA : A = At dp un gd (env :: outer)) (hf : env.frame = some L) (hke : env.scope.kind ≠ .module) (hdp : dp + dep < 1000) (hun : un + 20 * dep < 9900)
    (Fs : TI.Frs outer frs) (hfr : ∀ p ∈ frs, p ∈ news) (hn : (env :: outer).length = n)
    (hpre : ∀ p ∈ pre, p ∈ news) (hap : Apart pre frs) (hr : Rest ((pre ++ frs).map Prod.fst) news rest)
    (ret : ∀ v h' tk new frs', post v new → Fr h₀ L h' m → TI.SameUp frs frs' → TI.Frs outer frs' → News h₀ L h' (new ++ (rest ++ frs')) → Apart new rest → Apart new frs' → Q v { s with heap := h', toks := tk }) :
    wpAny (model PySem.Challenge.rw_mq0166_01.row.prog w) A (call (.ref f) args) Q E s := by
  subst hA
  obtain ⟨oL, es, ep, hL, hLd, hLk, hLf⟩ := F.ns
  have hL0 : h₀.get? L = none := by
    cases q : h₀.get? L with
    | none => rfl
    | some o => exact absurd (Nat.lt_of_lt_of_le (Heap.lt_size q) F.above) (Nat.lt_irrefl _)
  have inN : ∀ p ∈ pre ++ frs, p ∈ news := fun p hp => (List.mem_append.mp hp).elim (hpre p) (hfr p)
  have tch : ∀ a ∈ L :: (pre ++ frs).map Prod.fst, h₀.get? a = none := fun a ha => by
    rcases List.mem_cons.mp ha with rfl | ha
    · exact hL0
    · obtain ⟨p, hp, rfl⟩ := List.mem_map.mp ha
      exact (N p (inN p hp)).2.2
  have gS : h₀.StaysIn (hideAll s.heap (L :: (pre ++ frs).map Prod.fst)) := fun b o e => hideAll_get _ (F.keep b o e) fun q => by rw [tch b q] at e; cases e
  have gH : (hideAll s.heap (L :: (pre ++ frs).map Prod.fst)).StaysIn s.heap := fun b o e => of_hideAll _ e
  refine S mg mb mean dp un gd (hideAll s.heap (L :: (pre ++ frs).map Prod.fst)) (env :: outer) ((L, oL) :: frs) s Q E (X.keeps gS) (T.keeps gS) gH (Nat.le_of_eq (hideAll_size _ _)) hdp hun
    ⟨hke, hf, ⟨es, ep, hLd⟩, Fs⟩ hn (fun p hp => ?_) (fun p hp q hq => ?_) fun v h' tk new frs' st su bs ap po => ?_
  · rcases List.mem_append.mp hp with hp | hp
    · exact ⟨(N p (hpre p hp)).1, hideAll_none _ (.tail _ (List.mem_map_of_mem (List.mem_append_left _ hp)))⟩
    · rcases List.mem_cons.mp hp with rfl | hp
      · exact ⟨hL, hideAll_none _ (.head _)⟩
      · exact ⟨(N p (hfr p hp)).1, hideAll_none _ (.tail _ (List.mem_map_of_mem (List.mem_append_right _ hp)))⟩
  · rcases List.mem_cons.mp hq with rfl | hq
    · exact (N p (hpre p hp)).2.1
    · exact hap p hp q hq
  · cases frs' with
    | nil => exact False.elim su
    | cons q qs =>
      obtain ⟨h1, ⟨sl, h2⟩, su'⟩ := su
      obtain ⟨qa, qo⟩ := q
      obtain rfl : qa = L := h1
      have h2' : qo = { oL with slots := sl } := h2
      subst h2'
      have hL' := (bs (qa, { oL with slots := sl }) (List.mem_append_right _ (.head _))).1
      have fresh : ∀ p ∈ new ++ (qa, { oL with slots := sl }) :: qs, h₀.get? p.1 = none := fun p hp => by
        cases q : h₀.get? p.1 with
        | none => rfl
        | some o => have := gS _ _ q; rw [(bs p hp).2] at this; cases this
      have kept : ∀ q ∈ rest, h'.get? q.1 = some q.2 ∧ q.1 ≠ qa ∧ h₀.get? q.1 = none := fun q hq => by
        obtain ⟨hq', hn'⟩ := hr.spec q hq
        refine ⟨st _ _ (hideAll_get _ (N q hq').1 fun z => ?_), (N q hq').2⟩
        rcases List.mem_cons.mp z with z | z
        · exact (N q hq').2.1 z
        · exact hn' z
      refine ret v h' tk new qs po ⟨⟨_, es, ep, hL', hLd, hLk, hLf⟩, fun b o e => st _ _ (gS _ _ e), F.above⟩ su' (Fs.up su') (fun p hp => ?_) (fun p hp q hq e => ?_) (fun p hp q hq => ap p hp q (.tail _ hq))
      · rcases List.mem_append.mp hp with hp | hp
        · exact ⟨(bs p (List.mem_append_left _ hp)).1, ap p hp _ (.head _), fresh p (List.mem_append_left _ hp)⟩
        · rcases List.mem_append.mp hp with hp | hp
          · exact kept p hp
          · refine ⟨(bs p (List.mem_append_right _ (.tail _ hp))).1, ?_, fresh p (List.mem_append_right _ (.tail _ hp))⟩
            obtain ⟨x, hx, e⟩ := su'.fwd p hp
            rw [e]; exact (N x (hfr x hx)).2.1
      · obtain ⟨hq', hn'⟩ := hr.spec q hq
        have z := hideAll_get (qa :: (pre ++ frs).map Prod.fst) (N q hq').1 fun z => by
          rcases List.mem_cons.mp z with z | z
          · exact (N q hq').2.1 z
          · exact hn' z
        have e' : p.1 = q.1 := e
        rw [← e', (bs p (List.mem_append_left _ hp)).2] at z; cases z
theorem frs_one {l : List Env} {frs : List (Addr × Obj)} (h : TI.Frs l frs) (hl : l.length = 1) : ∃ e₀ L₀ o₀, l = [e₀] ∧ frs = [(L₀, o₀)] := by
  cases l with
  | nil => exact absurd hl (by decide)
  | cons e₀ l =>
    cases l with
    | cons e l => exact absurd hl (by simp only [List.length_cons]; omega)
    | nil =>
      cases frs with
      | nil => exact False.elim h
      | cons q qs =>
        cases qs with
        | nil => exact ⟨e₀, q.1, q.2, rfl, rfl⟩
        | cons => exact False.elim h.2.2.2
theorem frs_two {l : List Env} {frs : List (Addr × Obj)} (h : TI.Frs l frs) (hl : l.length = 2) : ∃ e₁ e₀ L₁ o₁ L₀ o₀, l = [e₁, e₀] ∧ frs = [(L₁, o₁), (L₀, o₀)] := by
  cases l with
  | nil => exact absurd hl (by decide)
  | cons e₁ l =>
    cases frs with
    | nil => exact False.elim h
    | cons q qs =>
      obtain ⟨e₀, L₀, o₀, e, rfl⟩ := frs_one h.2.2.2 (by simp only [List.length_cons] at hl; omega)
      exact ⟨e₁, e₀, q.1, q.2, L₀, o₀, by rw [e], rfl⟩
theorem same_one {L : Addr} {o : Obj} {l : List (Addr × Obj)} (h : TI.SameUp [(L, o)] l) : ∃ sl, l = [(L, { o with slots := sl })] := TLg.one_up h
theorem same_two {L₁ L₀ : Addr} {o₁ o₀ : Obj} {l : List (Addr × Obj)} (h : TI.SameUp [(L₁, o₁), (L₀, o₀)] l) : ∃ sl₁ sl₀, l = [(L₁, { o₁ with slots := sl₁ }), (L₀, { o₀ with slots := sl₀ })] := by
  match l, h with
  | q :: qs, h =>
    obtain ⟨h1, ⟨sl, h2⟩, h3⟩ := h
    obtain ⟨sl₀, rfl⟩ := TLg.one_up h3
    obtain ⟨qa, qo⟩ := q
    obtain rfl : qa = L₁ := h1
    have h2' : qo = { o₁ with slots := sl } := h2
    subst h2'
    exact ⟨sl, sl₀, rfl⟩
end Mine
end

section
open PySem PySem.W PyProof.Rows PySem.Calls
set_option Elab.async false
set_option maxRecDepth 100000
set_option linter.unusedVariables false
namespace Mine
theorem half_up {q : Nat} (hq : 0 < q) : ((q : Int) - 1).fdiv (2 ^ Int.toNat 1) = (((q - 1) / 2 : Nat) : Int) := by
  show ((q : Int) - 1).fdiv 2 = _
  rw [Int.fdiv_eq_ediv_of_nonneg _ (by decide)]
  omega
theorem rshift_half {prog : Program} {w : World} {A : Around} {E : Value → Shared → Prop} {s : Shared} {Q : Value → Shared → Prop} {q : Nat} {t u : Tok} (hq : 0 < q)
    (h : ∀ tk tk', Q (.int (((q - 1) / 2 : Nat) : Int) tk) { s with toks := tk' }) : wpAny (model prog w) A (binaryOp .RShift (.int ((q : Int) - 1) t) (.int 1 u)) Q E s :=
  rshift_int (by decide) (by rw [half_up hq]; exact h _ _)
local macro_rules | `(tactic| walk_at "binaryOp RShift int int") => `(tactic| (refine rshift_half ?hq ?_; (case hq => omega); intro _ _))
local macro_rules | `(tactic| k_room) => `(tactic| (simp only [depth_deeper, depth_in1, recursionLimit] at *; omega))
local macro_rules | `(tactic| walk_at "exec While Compare cons nil") => `(tactic| k_extra "mine while")
local macro_rules | `(tactic| walk_at "KswEnd") => `(tactic| k_extra "mine end")
local macro_rules | `(tactic| walk_at "mine enter") => `(tactic| (
  refine' enter ?k1 (Top.nolimit ?k2) ?k3 ?k4 ?k5 ?k6 ?k7 ?k8 ?k9 ?kB ?_ ?c2 ?c3 ?c4 ?c5
  (case k1 => assumption)
  (case k2 => assumption)
  (case k3 => assumption)
  (case k4 => assumption)
  (case k5 => assumption)
  (case k6 => k_is)
  (case k7 => k_is)
  (case k8 => ((show _ < 1000); dsimp only; omega))
  (case k9 => exact BindsTo.of_eq rfl)
  (case c5 => decide)
  (case kB => exact locs rfl)
  (case c2 => exact rfl)
  (case c3 => exact rfl)
  (case c4 => exact rfl)))

set_option maxHeartbeats 8000000 in
theorem siftdown_does {w : World} {hp : Addr} {vs : List Value} {ns : List Int} {n : Nat} {p : Nat} {pos : Int} {t1 t2 : Tok} (hI : IntsAre vs ns) (hpos : pos = (p : Int)) (h2 : p < ns.length) (h3 : ns.length < 1000) :
    Does w 71 [.ref hp, .int 0 t1, .int pos t2] [(hp, listOf vs.toArray n)] (fun v new => v = .none ∧ ∃ vs' : List Value, new = [(hp, listOf vs'.toArray n)] ∧ IntsAre vs' (sd (ns.getD p 0) ns p)) 2 := by
  w_top off
  unfold Does
  k_fill
  intro mg mb loose mean dp un gd g outer s Q E X T st hsz hdp hun N ret
  walk_at "mine enter"
  clear st hsz N
  intro L' h' F' N' l1
  (try k_lt l1)
  subst hpos
  (try dsimp only); (try k_fold)
  k_with_none
  k_with "mine while" => (
    (rename Fr _ _ _ _ => lF); (rename News _ _ _ _ => lN)
    with_unfolding_all refine ksw_while (σ := Nat × Tok × List Value × List Int) (fun c => [(hp, listOf c.2.2.1.toArray n)]) (fun c => [(Str.ofString "pos", Value.int (c.1 : Int) c.2.1)]) (fun c => IntsAre c.2.2.1 c.2.2.2) [Str.ofString "parentpos", Str.ofString "parent"] (fun c => c.1 < c.2.2.2.length ∧ c.2.2.2.length = ns.length ∧ sd (ns.getD p 0) c.2.2.2 c.1 = sd (ns.getD p 0) ns p) (fun c => c.1) (p, _, vs, ns) lF lN hI (by kst_all) ⟨h2, rfl, rfl⟩ ?_
    clear lF lN
    rintro ⟨q, tq, us, ms⟩ u h tk hi hP hF hN
    dsimp only [kstB] at hF hN hi hP
    obtain ⟨hq, hl, hsd⟩ := hP
    try k_fold)
  k_with "mine end" => k_dflt (
    (rename Fr _ _ _ _ => eF); (rename News _ _ _ _ => eN); (rename IntsAre _ _ => eI); (rename (_ : Int) < _ => hx)
    simp only [Int.toNat_natCast] at hx eI
    refine ksw_end (_, _, _, _) eF eN (fun p hp => hp) eI (by kst_all) (by ksw_same) ?_ ?_
    · refine ⟨?_, ?_, ?_⟩
      · dsimp only; rw [List.length_set]; omega
      · dsimp only; rw [List.length_set]; exact hl
      · dsimp only; rw [← hsd, sd_up (by omega) hx]
    · dsimp only; omega)
  k_steps
  all_goals (
    (rename Fr _ _ _ _ => eF); (rename News _ _ _ _ => eN); (rename IntsAre _ _ => eI)
    simp only [Int.toNat_natCast] at eI
    refine ret _ _ _ _ eF.keep (beside_of eN) ⟨rfl, _, rfl, ?_⟩)
  · (rename ¬ (_ : Int) < _ => hx)
    simp only [Int.toNat_natCast] at hx
    rw [← hsd, sd_stop (by omega) hx]; exact eI
  · have e : q = 0 := by omega
    subst e
    rw [← hsd, sd_zero]; exact eI
end Mine
end

section
open PySem PySem.W PyProof.Rows PySem.Calls
set_option Elab.async false
set_option maxRecDepth 100000
set_option linter.unusedVariables false
namespace Mine
local macro_rules | `(tactic| walk_at "binaryOp RShift int int") => `(tactic| (refine rshift_half ?hq ?_; (case hq => omega); intro _ _))
local macro_rules | `(tactic| k_room) => `(tactic| (simp only [depth_deeper, depth_in1, recursionLimit] at *; omega))
local macro_rules | `(tactic| walk_at "exec While Compare cons nil") => `(tactic| k_extra "mine while")
local macro_rules | `(tactic| walk_at "KswEnd") => `(tactic| k_extra "mine end")
local macro_rules | `(tactic| walk_at "mine enter") => `(tactic| (
  refine' enter ?k1 (Top.nolimit ?k2) ?k3 ?k4 ?k5 ?k6 ?k7 ?k8 ?k9 ?kB ?_ ?c2 ?c3 ?c4 ?c5
  (case k1 => assumption)
  (case k2 => assumption)
  (case k3 => assumption)
  (case k4 => assumption)
  (case k5 => assumption)
  (case k6 => k_is)
  (case k7 => k_is)
  (case k8 => ((show _ < 1000); dsimp only; omega))
  (case k9 => exact BindsTo.of_eq rfl)
  (case c5 => decide)
  (case kB => exact locs rfl)
  (case c2 => exact rfl)
  (case c3 => exact rfl)
  (case c4 => exact rfl)))
local macro_rules | `(tactic| walk_at "mine rest") => `(tactic| ((try dsimp only [List.map, List.cons_append, List.nil_append]); first | exact Rest.nil | (refine' Rest.skip ?a ?b; (case a => k_mem); (case b => walk_at "mine rest")) | (refine' Rest.keep ?a ?b; (case a => with_reducible k_all); (case b => walk_at "mine rest"))))
local macro_rules | `(tactic| walk_at "mine pre") => `(tactic| (repeat (first | exact List.forall_mem_nil _ | refine List.forall_mem_cons.mpr ⟨by k_mem, ?_⟩)))
local macro_rules | `(tactic| walk_at "mine bound") => `(tactic| ((try dsimp only [Around.deeper, Around.in1]); with_reducible omega))
local macro_rules | `(tactic| walk_at "call ref") => `(tactic| (k_here; refine halt ?_))

theorem su_turn {ms : List Int} {q c : Nat} (h : 2 * q + 1 < ms.length) (hc : child ms q = c) : su ms q = su (ms.set q (ms.getD c 0)) c := by rw [su_step h, hc]
theorem getD_set_self {xs : List Int} {q : Nat} {x : Int} (h : q < xs.length) : (xs.set q x).getD q 0 = x := by
  simp [List.getD_eq_getElem?_getD, h]

set_option maxHeartbeats 8000000 in
theorem siftup_does {w : World} {hp : Addr} {vs : List Value} {ns : List Int} {n : Nat} {t1 : Tok} (hI : IntsAre vs ns) (h2 : 0 < ns.length) (h3 : ns.length < 1000) :
    Does w 78 [.ref hp, .int 0 t1] [(hp, listOf vs.toArray n)] (fun v new => v = .none ∧ ∃ vs' : List Value, new = [(hp, listOf vs'.toArray n)] ∧ IntsAre vs' (sift ns)) 4 := by
  w_top off
  unfold Does
  k_fill
  intro mg mb loose mean dp un gd g outer s Q E X T st hsz hdp hun N ret
  walk_at "mine enter"
  clear st hsz N
  intro L' h' F' N' l1
  (try k_lt l1)
  (try dsimp only); (try k_fold)
  k_with_none
  k_with "mine while" => (
    (rename Fr _ _ _ _ => lF); (rename News _ _ _ _ => lN)
    with_unfolding_all refine ksw_while (σ := Nat × Int × Int × Tok × Tok × List Value × List Int) (fun c => [(hp, listOf c.2.2.2.2.2.1.toArray n)]) (fun c => [(Str.ofString "pos", Value.int c.2.1 c.2.2.2.1), (Str.ofString "childpos", Value.int c.2.2.1 c.2.2.2.2.1)]) (fun c => IntsAre c.2.2.2.2.2.1 c.2.2.2.2.2.2) [Str.ofString "rightpos"] (fun c => c.1 < c.2.2.2.2.2.2.length ∧ c.2.2.2.2.2.2.length = ns.length ∧ c.2.1 = (c.1 : Int) ∧ c.2.2.1 = 2 * (c.1 : Int) + 1 ∧ su c.2.2.2.2.2.2 c.1 = su ns 0) (fun c => ns.length - c.1) (0, _, _, _, _, vs, ns) lF lN hI (by kst_all) ⟨h2, rfl, by rfl, by rfl, rfl⟩ ?_
    clear lF lN
    rintro ⟨q, ps, ch, tq, tc, us, ms⟩ u h tk hi hP hF hN
    dsimp only [kstB] at hF hN hi hP
    obtain ⟨hq, hl, hps, hch, hsu⟩ := hP
    try k_fold)
  k_with "mine end" => k_dflt (
    (rename Fr _ _ _ _ => eF); (rename News _ _ _ _ => eN); (rename IntsAre _ _ => eI)
    have e1 : ps.toNat = q := by omega
    have e2 : (ch + 1).toNat = 2 * q + 2 := by omega
    have e3 : ch.toNat = 2 * q + 1 := by omega
    simp only [e1, e2, e3] at *
    first
    | (have hc : child ms q = 2 * q + 2 := by (unfold child; rw [if_pos ⟨by omega, by assumption⟩])
       refine ksw_end (2 * q + 2, _, _, _, _, _, _) eF eN (fun p hp => hp) eI (by kst_all) (by ksw_same) ⟨by rw [List.length_set]; omega, by rw [List.length_set]; exact hl, by dsimp only; omega, by dsimp only; omega, by rw [← hsu]; exact (su_turn (by omega) hc).symm⟩ (by dsimp only; omega))
    | (have hc : child ms q = 2 * q + 1 := by (unfold child; first | rw [if_neg (fun h => h.2 (by assumption))] | rw [if_neg (fun h => absurd h.1 (by omega))])
       refine ksw_end (2 * q + 1, _, _, _, _, _, _) eF eN (fun p hp => hp) eI (by kst_all) (by ksw_same) ⟨by rw [List.length_set]; omega, by rw [List.length_set]; exact hl, by dsimp only; omega, by dsimp only; omega, by rw [← hsu]; exact (su_turn (by omega) hc).symm⟩ (by dsimp only; omega)))
  k_steps
  refine Halt.go ?_
  (rename Fr _ _ _ _ => cF); (rename News _ _ _ _ => cN); (rename IntsAre _ _ => cI)
  have e1 : ps.toNat = q := by omega
  rw [e1] at cI cN
  refine does_use (siftdown_does cI hps (by rw [List.length_set]; omega) (by rw [List.length_set]; omega)) cF X cN T rfl (by walk_at "mine bound") (by walk_at "mine bound") (by walk_at "mine pre") (by walk_at "mine rest") ?_
  clear cF cN
  intro v h' tk new hpost F' N' hap
  obtain ⟨rfl, vs', rfl, hI'⟩ := hpost
  (try simp only [List.cons_append, List.nil_append] at N'); (try dsimp only)
  k_steps
  rw [getD_set_self hq] at hI'
  have e2 : su ns 0 = (ms, q) := by rw [← hsu, su_stop (by omega)]
  refine ret _ _ _ _ F'.keep (beside_of N') ⟨rfl, _, rfl, ?_⟩
  unfold sift
  rw [e2]
  exact hI'
end Mine
end

section
open PySem PySem.W PyProof.Rows PySem.Calls
set_option Elab.async false
set_option maxRecDepth 100000
set_option linter.unusedVariables false
namespace Mine
local macro_rules | `(tactic| walk_at "mine pad 1") => `(tactic| skip)
local macro_rules | `(tactic| walk_at "binaryOp RShift int int") => `(tactic| (refine rshift_half ?hq ?_; (case hq => omega); intro _ _))
local macro_rules | `(tactic| k_room) => `(tactic| (simp only [depth_deeper, depth_in1, recursionLimit] at *; omega))
local macro_rules | `(tactic| walk_at "exec While Compare cons nil") => `(tactic| k_extra "mine while")
local macro_rules | `(tactic| walk_at "KswEnd") => `(tactic| k_extra "mine end")
local macro_rules | `(tactic| walk_at "mine enter") => `(tactic| (
  refine' enter ?k1 (Top.nolimit ?k2) ?k3 ?k4 ?k5 ?k6 ?k7 ?k8 ?k9 ?kB ?_ ?c2 ?c3 ?c4 ?c5
  (case k1 => assumption)
  (case k2 => assumption)
  (case k3 => assumption)
  (case k4 => assumption)
  (case k5 => assumption)
  (case k6 => k_is)
  (case k7 => k_is)
  (case k8 => ((show _ < 1000); dsimp only; omega))
  (case k9 => exact BindsTo.of_eq rfl)
  (case c5 => decide)
  (case kB => exact locs rfl)
  (case c2 => exact rfl)
  (case c3 => exact rfl)
  (case c4 => exact rfl)))
local macro_rules | `(tactic| walk_at "mine rest") => `(tactic| ((try dsimp only [List.map, List.cons_append, List.nil_append]); first | exact Rest.nil | (refine' Rest.skip ?a ?b; (case a => k_mem); (case b => walk_at "mine rest")) | (refine' Rest.keep ?a ?b; (case a => with_reducible k_all); (case b => walk_at "mine rest"))))
local macro_rules | `(tactic| walk_at "mine pre") => `(tactic| (repeat (first | exact List.forall_mem_nil _ | refine List.forall_mem_cons.mpr ⟨by k_mem, ?_⟩)))
local macro_rules | `(tactic| walk_at "mine bound") => `(tactic| ((try dsimp only [Around.deeper, Around.in1]); with_reducible omega))
local macro_rules | `(tactic| walk_at "call ref") => `(tactic| (k_here; refine halt ?_))

set_option maxHeartbeats 8000000 in
theorem heappush_does {w : World} {hp : Addr} {vs : List Value} {ns : List Int} {n : Nat} {x : Int} {t1 : Tok} (hI : IntsAre vs ns) (h3 : ns.length < 900) :
    Does w 43 [.ref hp, .int x t1] [(hp, listOf vs.toArray n)] (fun v new => v = .none ∧ ∃ (vs' : List Value) (n' : Nat), new = [(hp, listOf vs'.toArray n')] ∧ IntsAre vs' (pushL ns x)) 4 := by
  w_top off
  unfold Does
  k_fill
  intro mg mb loose mean dp un gd g outer s Q E X T st hsz hdp hun N ret
  walk_at "mine enter"
  clear st hsz N
  intro L' h' F' N' l1
  (try k_lt l1)
  (try dsimp only); (try k_fold)
  k_with_none
  k_steps
  refine Halt.go ?_
  (rename Fr _ _ _ _ => cF); (rename News _ _ _ _ => cN); (rename IntsAre _ _ => cI)
  refine does_use (siftdown_does (p := ns.length) (cI.append (.cons x t1 .nil)) (by omega) (by simp) (by simp; omega)) cF X cN T rfl (by walk_at "mine bound") (by walk_at "mine bound") (by walk_at "mine pre") (by walk_at "mine rest") ?_
  clear cF cN
  intro v h' tk new hpost F' N' hap
  obtain ⟨rfl, vs', rfl, hI'⟩ := hpost
  (try simp only [List.cons_append, List.nil_append] at N'); (try dsimp only)
  k_steps
  have e : (ns ++ [x]).getD ns.length 0 = x := by simp [List.getD_eq_getElem?_getD]
  rw [e] at hI'
  exact ret _ _ _ _ F'.keep (beside_of N') ⟨rfl, _, _, rfl, hI'⟩

set_option maxHeartbeats 8000000 in
theorem heappop_does {w : World} {hp : Addr} {vs : List Value} {ns : List Int} {n : Nat} (hI : IntsAre vs ns) (h2 : ns ≠ []) (h3 : ns.length < 900) :
    Does w 50 [.ref hp] [(hp, listOf vs.toArray n)] (fun v new => ∃ (t : Tok) (vs' : List Value) (n' : Nat), v = .int (ns.getD 0 0) t ∧ new = [(hp, listOf vs'.toArray n')] ∧ IntsAre vs' (popL ns)) 6 := by
  have h4 : 0 < ns.length := List.length_pos_iff.mpr h2
  have hvl : vs.length = ns.length := hI.length
  have hdl : ns.dropLast.length = ns.length - 1 := List.length_dropLast
  w_top off
  unfold Does
  k_fill
  intro mg mb loose mean dp un gd g outer s Q E X T st hsz hdp hun N ret
  walk_at "mine enter"
  clear st hsz N
  intro L' h' F' N' l1
  (try k_lt l1)
  (try dsimp only); (try k_fold)
  k_with_none
  k_steps
  rotate_left
  · (rename Fr _ _ _ _ => cF); (rename News _ _ _ _ => cN); (rename IntsAre _ _ => cI); (rename ¬ 0 < _ => hx)
    exact ret _ _ _ _ cF.keep (beside_of cN) ⟨_, _, _, congrArg (fun z => Value.int z _) (getLastD_one h4 hx), rfl, by rw [popL_nil hx]; exact cI⟩
  (rename 0 < List.length (List.dropLast _) => hx)
  refine Halt.go ?_
  (rename Fr _ _ _ _ => cF); (rename News _ _ _ _ => cN); (rename IntsAre _ _ => cI)
  refine does_use (siftup_does cI (by simp; omega) (by simp; omega)) cF X cN T rfl (by walk_at "mine bound") (by walk_at "mine bound") (by walk_at "mine pre") (by walk_at "mine rest") ?_
  clear cF cN
  intro v h' tk new hpost F' N' hap
  obtain ⟨rfl, vs', rfl, hI'⟩ := hpost
  (try simp only [List.cons_append, List.nil_append] at N'); (try dsimp only)
  k_steps
  exact ret _ _ _ _ F'.keep (beside_of N') ⟨_, _, _, congrArg (fun z => Value.int z _) (getD_dropLast hx), rfl, by rw [popL_pos hx]; exact hI'⟩
set_option maxHeartbeats 8000000 in
theorem heapreplace_does {w : World} {hp : Addr} {vs : List Value} {ns : List Int} {n : Nat} {x : Int} {t1 : Tok} (hI : IntsAre vs ns) (h2 : ns ≠ []) (h3 : ns.length < 900) :
    Does w 57 [.ref hp, .int x t1] [(hp, listOf vs.toArray n)] (fun v new => ∃ (t : Tok) (vs' : List Value) (n' : Nat), v = .int (ns.getD 0 0) t ∧ new = [(hp, listOf vs'.toArray n')] ∧ IntsAre vs' (replL ns x)) 6 := by
  have h4 : 0 < ns.length := List.length_pos_iff.mpr h2
  w_top off
  unfold Does
  k_fill
  intro mg mb loose mean dp un gd g outer s Q E X T st hsz hdp hun N ret
  walk_at "mine enter"
  clear st hsz N
  intro L' h' F' N' l1
  (try k_lt l1)
  (try dsimp only); (try k_fold)
  k_with_none
  k_steps
  refine Halt.go ?_
  (rename Fr _ _ _ _ => cF); (rename News _ _ _ _ => cN); (rename IntsAre _ _ => cI)
  refine does_use (siftup_does cI (by simp; omega) (by simp; omega)) cF X cN T rfl (by walk_at "mine bound") (by walk_at "mine bound") (by walk_at "mine pre") (by walk_at "mine rest") ?_
  clear cF cN
  intro v h' tk new hpost F' N' hap
  obtain ⟨rfl, vs', rfl, hI'⟩ := hpost
  (try simp only [List.cons_append, List.nil_append] at N'); (try dsimp only)
  k_steps
  exact ret _ _ _ _ F'.keep (beside_of N') ⟨_, _, _, rfl, rfl, hI'⟩
set_option maxHeartbeats 8000000 in
theorem heappushpop_does {w : World} {hp : Addr} {vs : List Value} {ns : List Int} {n : Nat} {x : Int} {t1 : Tok} (hI : IntsAre vs ns) (h3 : ns.length < 900) :
    Does w 64 [.ref hp, .int x t1] [(hp, listOf vs.toArray n)] (fun v new => ∃ (t : Tok) (vs' : List Value) (n' : Nat), v = .int (ppV ns x) t ∧ new = [(hp, listOf vs'.toArray n')] ∧ IntsAre vs' (ppL ns x)) 6 := by
  w_top off
  unfold Does
  k_fill
  intro mg mb loose mean dp un gd g outer s Q E X T st hsz hdp hun N ret
  walk_at "mine enter"
  clear st hsz N
  intro L' h' F' N' l1
  (try k_lt l1)
  (try dsimp only); (try k_fold)
  k_with_none
  k_steps
  rotate_left
  · (rename ¬ (_ : Int) < _ => hx)
    exact ret _ _ _ _ F'.keep (beside_of N') ⟨_, _, _, congrArg (fun z => Value.int z _) (pp_ge hx).1.symm, rfl, by rw [(pp_ge hx).2]; exact hI⟩
  · (rename ¬ (_ : Nat) < _ => hx)
    exact ret _ _ _ _ F'.keep (beside_of N') ⟨_, _, _, congrArg (fun z => Value.int z _) (pp_nil hx).1.symm, rfl, by rw [(pp_nil hx).2]; exact hI⟩
  (rename (_ : Int) < _ => hx); (rename 0 < List.length _ => hx0)
  refine Halt.go ?_
  (rename Fr _ _ _ _ => cF); (rename News _ _ _ _ => cN); (rename IntsAre _ _ => cI)
  refine does_use (siftup_does cI (by simp; omega) (by simp; omega)) cF X cN T rfl (by walk_at "mine bound") (by walk_at "mine bound") (by walk_at "mine pre") (by walk_at "mine rest") ?_
  clear cF cN
  intro v h' tk new hpost F' N' hap
  obtain ⟨rfl, vs', rfl, hI'⟩ := hpost
  (try simp only [List.cons_append, List.nil_append] at N'); (try dsimp only)
  k_steps

  exact ret _ _ _ _ F'.keep (fun p hp => beside_of N' p (by simp only [List.mem_singleton] at hp; subst hp; exact .head _)) ⟨_, _, _, congrArg (fun z => Value.int z _) (pp_lt hx0 hx).1.symm, rfl, by rw [(pp_lt hx0 hx).2]; exact hI'⟩
end Mine
end

section
open PySem PySem.W PyProof.Rows PySem.Calls
set_option Elab.async false
set_option maxRecDepth 100000
set_option linter.unusedVariables false
namespace Mine
local macro_rules | `(tactic| walk_at "binaryOp RShift int int") => `(tactic| (refine rshift_half ?hq ?_; (case hq => omega); intro _ _))
local macro_rules | `(tactic| k_room) => `(tactic| (simp only [depth_deeper, depth_in1, recursionLimit] at *; omega))
local macro_rules | `(tactic| walk_at "exec While Compare cons nil") => `(tactic| k_extra "mine while")
local macro_rules | `(tactic| walk_at "KswEnd") => `(tactic| k_extra "mine end")
local macro_rules | `(tactic| walk_at "InvEndN") => `(tactic| (refine halt ?_))
local macro_rules | `(tactic| walk_at "mine enter") => `(tactic| (
  refine' enter ?k1 (Top.nolimit ?k2) ?k3 ?k4 ?k5 ?k6 ?k7 ?k8 ?k9 ?kB ?_ ?c2 ?c3 ?c4 ?c5
  (case k1 => assumption)
  (case k2 => assumption)
  (case k3 => assumption)
  (case k4 => assumption)
  (case k5 => assumption)
  (case k6 => k_is)
  (case k7 => k_is)
  (case k8 => ((show _ < 1000); dsimp only; omega))
  (case k9 => exact BindsTo.of_eq rfl)
  (case c5 => decide)
  (case kB => exact locs rfl)
  (case c2 => exact rfl)
  (case c3 => exact rfl)
  (case c4 => exact rfl)))
local macro_rules | `(tactic| walk_at "mine rest") => `(tactic| ((try dsimp only [List.map, List.cons_append, List.nil_append]); first | exact Rest.nil | (refine' Rest.skip ?a ?b; (case a => k_mem); (case b => walk_at "mine rest")) | (refine' Rest.keep ?a ?b; (case a => with_reducible k_all); (case b => walk_at "mine rest"))))
local macro_rules | `(tactic| walk_at "mine pre") => `(tactic| (repeat (first | exact List.forall_mem_nil _ | refine List.forall_mem_cons.mpr ⟨by k_mem, ?_⟩)))
local macro_rules | `(tactic| walk_at "mine bound") => `(tactic| ((try dsimp only [Around.deeper, Around.in1]); with_reducible omega))
local macro_rules | `(tactic| walk_at "call ref") => `(tactic| (k_here; refine halt ?_))
local macro_rules | `(tactic| walk_at "pyIter ref") => `(tactic| (k_here; refine halt ?_))
local macro_rules | `(tactic| walk_at "compareOp NotIn int ref") => `(tactic| (k_here; k_dflt (refine' notin_list_ints ?l ?i ?_; (case l => exact News.isList (by k_asm) (by k_mem)); (case i => with_reducible assumption); k_whole)))

set_option maxHeartbeats 8000000 in
theorem dedup_does {w : World} {rp : Addr} {vs : List Value} {ns : List Int} {n : Nat} (hI : IntsAre vs ns) (h3 : ns.length < 900) :
    Does w 29 [.ref rp] [(rp, listOf vs.toArray n)] (fun v new => ∃ (l : Addr) (vs' : List Value) (n' : Nat), v = .ref l ∧ new = [(l, listOf vs'.toArray n'), (rp, listOf vs.toArray n)] ∧ @Ne Nat l rp ∧ IntsAre vs' (dd ns)) 2 := by
  w_top off
  unfold Does
  k_fill
  intro mg mb loose mean dp un gd g outer s Q E X T st hsz hdp hun N ret
  walk_at "mine enter"
  clear st hsz N
  intro L' h' F' N' l1
  (try k_lt l1)
  (try dsimp only); (try k_fold)
  k_with_none
  k_steps
  refine Halt.go ?_
  (rename Fr _ _ _ _ => cF); (rename News _ _ _ _ => cN); rename_i lp _ hlr _; (rename IntsAre _ _ => hI)
  with_unfolding_all refine' kst_listL (σ := Nat × List Value × List Int) (fun c => [(lp, listOf c.2.1.toArray c.1), (rp, listOf vs.toArray n)]) (fun c => []) (fun c => IntsAre c.2.1 c.2.2) [] (fun pre c => c.2.2 = dd pre) (0, [], []) rfl (fun c => .tail _ (.head _)) hI cF cN .nil (fun p hp => nomatch hp) rfl ?_ ?_
  all_goals clear cF cN
  · rintro ⟨n₁, us, ms⟩ pre post k t u h tk own hns hk hoff hi hP hF hN
    dsimp only [kstB] at hF hN hi hP
    have kM := kstMark
    have hul : us.length < 900 := by
      have e1 := hi.length; have e2 := dd_len pre; have e3 := congrArg List.length hns
      simp only [List.length_append, List.length_cons] at e3
      rw [hP] at e1; omega
    (try dsimp only); (try k_fold)
    (try simp only [List.cons_append, List.nil_append] at hN)
    k_steps
    all_goals (
      refine Halt.go ?_
      (rename Fr _ _ _ _ => eF); (rename News _ _ _ _ => eN); (rename List.any _ _ = _ => hx)
      (try simp only [List.push_toArray] at eN))
    · refine kst_end (n₁, us, ms) eF eN (by kst_in) (by intro p hp; kst_mem) rfl hi (fun p hp => nomatch hp) (by kst_same) ?_
      dsimp only; rw [hP] at hx ⊢; rw [dd_in hx]
    · refine kst_end (n₁ + 1, us ++ [Value.int k t], ms ++ [k]) eF eN (by kst_in) (by intro p hp; kst_mem) rfl (hi.append (.cons k t .nil)) (fun p hp => nomatch hp) (by kst_same) ?_
      dsimp only; rw [hP] at hx ⊢; rw [dd_out (by rw [hx]; exact Bool.false_ne_true)]
  · rintro ⟨n₁, us, ms⟩ u h tk hi hP hF hN
    dsimp only [kstB] at hF hN hi hP
    (try dsimp only); (try k_fold)
    k_steps
    refine ret _ _ _ _ hF.keep (beside_of hN) ⟨lp, us, n₁, rfl, rfl, ?_, ?_⟩
    · exact Nat.ne_of_gt hlr
    · rw [← hP]; exact hi
end Mine
end

section
open PySem PySem.W PyProof.Rows PySem.Calls
set_option Elab.async false
set_option maxRecDepth 100000
namespace Mine
theorem ints_kf {vs : List Value} {ns : List Int} (h : IntsAre vs ns) : kf_ints vs = true := by
  induction h with
  | nil => rfl
  | cons n t _ ih => exact ih
theorem ints_del {k : Int} {vs : List Value} {ns : List Int} (h : IntsAre vs ns) : ns.any (· == k) = true → ∃ j q, kf_at k vs = some j ∧ ki_delL vs j = some q ∧ IntsAre q (ns.erase k) := by
  induction h with
  | nil => intro h; cases h
  | @cons a t us ms r ih =>
    intro h
    rw [List.erase_cons]
    cases hx : (a == k) with
    | true =>
      refine ⟨0, us, ?_, rfl, by rw [if_pos rfl]; exact r⟩
      unfold kf_at
      have e : isInt k (.int a t) = true := hx
      rw [e]; rfl
    | false =>
      rw [List.any_cons, hx, Bool.false_or] at h
      obtain ⟨j, q, e1, e2, e3⟩ := ih h
      refine ⟨j + 1, .int a t :: q, ?_, ?_, by rw [if_neg (by simp)]; exact .cons a t e3⟩
      · unfold kf_at
        have e : isInt k (.int a t) = false := hx
        rw [e, e1]; rfl
      · show (match ki_delL us j with | some q => some (Value.int a t :: q) | none => none) = _
        rw [e2]
section
variable {prog : Program} {w : World} {A : Around} {E : Value → Shared → Prop} {s : Shared} {h₀ h : Heap} {L D : Addr} {m : Str → Option Value} {rest : List (Addr × Obj)} {vs : List Value} {ns : List Int} {n : Nat} {k : Int} {t : Tok} {Q : Value → Shared → Prop}
theorem remove_or (F : Fr h₀ L s.heap m) (N : News h₀ L s.heap ((D, listOf vs.toArray n) :: rest)) (hr : ∀ p ∈ rest, p.1 ≠ D) (hi : IntsAre vs ns) (hz : ns.length < 900) (hA : A.handled = none)
    (h1 : ns.any (· == k) = true → ∀ q h', IntsAre q (ns.erase k) → Fr h₀ L h' m → News h₀ L h' ((D, listOf q.toArray (n + 1)) :: rest) → Q .none { s with heap := h' })
    (h0 : ns.any (· == k) = false → ∀ h' tk e, Heap.NewExc s.heap h' e "ValueError" → E (.ref e) { s with heap := h', toks := tk }) :
    wpAny (model prog w) A (call (.builtin "list.remove") [.ref D, .int k t]) Q E s := by
  have hlen := hi.length
  have hsz : vs.length ≤ sizeLine := by rw [sizeLine_eq]; omega
  cases hx : ns.any (· == k) with
  | true =>
    obtain ⟨j, q, e1, e2, e3⟩ := ints_del hi hx
    exact kf_remove (its := vs.toArray) F N (ints_kf hi) e1 e2 (Upd.head hr) hsz fun h' F' N' => h1 hx q h' e3 F' N'
  | false =>
    have hn : ∀ i (hm : i < vs.toArray.size), isInt k vs.toArray[i] = false := fun i hm => by
      have e := any_isInt k hi
      rw [hx] at e
      have := List.any_eq_false.mp e (vs.toArray[i]) (by simp)
      simpa using this
    exact call_meets PySem.F.slot_list_remove ⟨_, (N _ (.head _)).1, rfl⟩ PySem.F.entry_list_remove (PySem.F.args_list_remove_2 _ _)
      (MeetsSeq.list_remove_none D vs.toArray n (.int k t) (isInt k) (fun y hy => kf_eq (ints_kf hi) y (by simpa using hy)) hn) ⟨(N _ (.head _)).1, hA, h0 hx⟩
end
end Mine
end

section
open PySem PySem.W PyProof.Rows PySem.Calls
set_option Elab.async false
set_option maxRecDepth 100000
set_option linter.unusedVariables false
namespace Mine
local macro_rules | `(tactic| walk_at "binaryOp RShift int int") => `(tactic| (refine rshift_half ?hq ?_; (case hq => omega); intro _ _))
local macro_rules | `(tactic| k_room) => `(tactic| (simp only [depth_deeper, depth_in1, recursionLimit] at *; omega))
local macro_rules | `(tactic| walk_at "exec While Compare cons nil") => `(tactic| k_extra "mine while")
local macro_rules | `(tactic| walk_at "KswEnd") => `(tactic| k_extra "mine end")
local macro_rules | `(tactic| walk_at "InvEndN") => `(tactic| (refine halt ?_))
local macro_rules | `(tactic| walk_at "mine enter") => `(tactic| (
  refine' enter ?k1 (Top.nolimit ?k2) ?k3 ?k4 ?k5 ?k6 ?k7 ?k8 ?k9 ?kB ?_ ?c2 ?c3 ?c4 ?c5
  (case k1 => assumption)
  (case k2 => assumption)
  (case k3 => assumption)
  (case k4 => assumption)
  (case k5 => assumption)
  (case k6 => k_is)
  (case k7 => k_is)
  (case k8 => ((show _ < 1000); dsimp only; omega))
  (case k9 => exact BindsTo.of_eq rfl)
  (case c5 => decide)
  (case kB => exact locs rfl)
  (case c2 => exact rfl)
  (case c3 => exact rfl)
  (case c4 => exact rfl)))
local macro_rules | `(tactic| walk_at "mine rest") => `(tactic| ((try dsimp only [List.map, List.cons_append, List.nil_append]); first | exact Rest.nil | (refine' Rest.skip ?a ?b; (case a => k_mem); (case b => walk_at "mine rest")) | (refine' Rest.keep ?a ?b; (case a => with_reducible k_all); (case b => walk_at "mine rest"))))
local macro_rules | `(tactic| walk_at "mine pre") => `(tactic| (repeat (first | exact List.forall_mem_nil _ | refine List.forall_mem_cons.mpr ⟨by k_mem, ?_⟩)))
local macro_rules | `(tactic| walk_at "mine bound") => `(tactic| ((try dsimp only [Around.deeper, Around.in1]); with_reducible omega))
local macro_rules | `(tactic| walk_at "call ref") => `(tactic| (k_here; refine halt ?_))
local macro_rules | `(tactic| walk_at "pyIter ref") => `(tactic| (k_here; refine halt ?_))
local macro_rules | `(tactic| walk_at "compareOp NotIn int ref") => `(tactic| (k_here; k_dflt (refine' notin_list_ints ?l ?i ?_; (case l => exact News.isList (by k_asm) (by k_mem)); (case i => with_reducible assumption); k_whole)))
local macro_rules | `(tactic| walk_at "call builtin:list.remove") => `(tactic| (k_here; refine halt ?_))
local macro_rules | `(tactic| walk_at "noteFrame ref") => `(tactic| (k_here; refine halt ?_))

set_option maxHeartbeats 8000000 in
theorem compare_does {w : World} {ap bp : Addr} {vs us : List Value} {ns ms : List Int} {n n₂ : Nat} (hI : IntsAre vs ns) (hJ : IntsAre us ms) (h3 : ns.length < 900) (h4 : ms.length < 900) (hab : @Ne Nat ap bp) :
    DoesF w 36 [.ref ap, .ref bp] [(ap, listOf vs.toArray n), (bp, listOf us.toArray n₂)] (fun v new => v = .bool (cmpL ns ms) ∧ new = [(ap, listOf vs.toArray n), (bp, listOf us.toArray n₂)]) 4 2 := by
  w_top off
  unfold DoesF
  k_fill
  intro mg mb mean dp un gd g outer frs s Q E X T st hsz hdp hun Fs hlen N hfp ret
  obtain ⟨e₁, e₀, L₁, o₁, L₀, o₀, rfl, rfl⟩ := frs_two Fs hlen
  simp only [List.cons_append, List.nil_append] at N
  simp only [Apart, List.forall_mem_cons, List.not_mem_nil, false_implies, implies_true, and_true] at hfp
  walk_at "mine enter"
  clear st hsz N
  intro L' h' F' N' l1
  (try k_lt l1)
  (try dsimp only); (try k_fold)
  k_with_none
  k_steps
  refine Halt.go ?_
  (rename Fr _ _ _ _ => cF); (rename News _ _ _ _ => cN)
  refine does_use (dedup_does hI h3) cF X cN T rfl (by walk_at "mine bound") (by walk_at "mine bound") (by walk_at "mine pre") (by walk_at "mine rest") ?_
  clear cF cN
  intro v h' tk new hpost F' N' hap
  obtain ⟨lp, vs₁, n₁, rfl, rfl, hne, hI₁⟩ := hpost
  (try simp only [List.cons_append, List.nil_append] at N'); (try dsimp only)
  (try simp only [Apart, List.forall_mem_cons, List.not_mem_nil, false_implies, implies_true, and_true] at hap)
  k_steps
  refine Halt.go ?_
  (rename Fr _ _ _ _ => cF); (rename News _ _ _ _ => cN)
  refine does_use (dedup_does hJ h4) cF X cN T rfl (by walk_at "mine bound") (by walk_at "mine bound") (by walk_at "mine pre") (by walk_at "mine rest") ?_
  clear cF cN
  intro v h' tk new hpost F' N' hap
  obtain ⟨lq, vs₂, n₃, rfl, rfl, hne₂, hI₂⟩ := hpost
  (try simp only [List.cons_append, List.nil_append] at N'); (try dsimp only)
  (try simp only [Apart, List.forall_mem_cons, List.not_mem_nil, false_implies, implies_true, and_true] at hap)
  have kM := kstMark
  have hl₂ : vs₂.length < 900 := by have e1 := hI₂.length; have e2 := dd_len ms; omega
  k_steps
  refine Halt.go ?_
  (rename Fr _ _ _ _ => cF); (rename News _ _ _ _ => cN); rename_i D nD _ hD _
  with_unfolding_all refine' kst_listL (σ := Nat × List Value × List Int) (fun c => [(D, listOf c.2.1.toArray c.1), (lq, listOf vs₂.toArray n₃), (bp, listOf us.toArray n₂), (lp, listOf vs₁.toArray n₁), (ap, listOf vs.toArray n), (L₁, o₁), (L₀, o₀)]) (fun c => []) (fun c => IntsAre c.2.1 c.2.2) [] (fun pre c => rm pre (dd ms) = some c.2.2) (nD, vs₂, dd ms) rfl (fun c => .tail _ (.tail _ (.tail _ (.head _)))) hI₁ cF cN hI₂ (fun p hp => nomatch hp) rfl ?_ ?_
  all_goals clear cF cN
  · rintro ⟨n₅, ts, tn⟩ pre post k t u h tk own hns hk hoff hi hP hF hN
    dsimp only [kstB] at hF hN hi hP
    have hln : tn.length < 900 := by have e1 := rm_len pre hP; have e2 := dd_len ms; omega
    (try dsimp only); (try k_fold)
    (try simp only [List.cons_append, List.nil_append] at hN)
    k_steps
    refine Halt.go ?_
    refine remove_or hF hN (by k_all) hi hln rfl ?_ ?_
    · intro hx q h' hq eF eN
      clear hF hN
      (try dsimp only)
      k_steps
      refine Halt.go ?_
      refine kst_end (n₅ + 1, q, tn.erase k) eF eN (by kst_in) (by intro p hp; kst_mem) rfl hq (fun p hp => nomatch hp) (by kst_same) ?_
      dsimp only; rw [rm_snoc, hP]; show (if tn.any (· == k) = true then _ else _) = _; rw [if_pos hx]
    · intro hx h' tk' e hexc
      (try dsimp only)
      k_steps
      refine Halt.go ?_
      have hN' : News g L' h ([(ap, listOf vs.toArray n), (bp, listOf us.toArray n₂)] ++ [(L₁, o₁), (L₀, o₀)]) := fun p hp => hN p (by
        simp only [List.cons_append, List.nil_append, List.mem_cons, List.not_mem_nil, or_false] at hp
        simp only [List.mem_cons]
        rcases hp with rfl | rfl | rfl | rfl <;> simp)
      refine TLg.noted_newA (A₀ := At dp un gd [e₁, e₀]) (frs := [(L₁, o₁), (L₀, o₀)]) rfl Fs hexc hF hN' ?_ ?_
      · intro p hp hm
        rcases List.mem_cons.mp hm with q | hm
        · exact (hN' p (List.mem_append_left _ hp)).2.1 q
        · simp only [List.mem_cons, List.not_mem_nil, or_false, List.map_cons, List.map_nil] at hp hm
          rcases hp with rfl | rfl <;> rcases hm with q | q
          · exact hfp.1.1 q
          · exact hfp.1.2 q
          · exact hfp.2.1 q
          · exact hfp.2.2 q
      · intro h'' frs' su Fs' H
        clear hF hN hN' hexc
        have H' := TT.HeldNA.held H
        (try dsimp only)
        k_steps
        (rename Fr _ _ _ _ => eF); (rename News _ _ _ _ => eN)
        refine ret _ _ _ [(ap, listOf vs.toArray n), (bp, listOf us.toArray n₂)] frs' eF.keep su (beside_of eN) ?_ ⟨congrArg Value.bool (cmpL_none hns hP hx).symm, rfl⟩
        obtain ⟨sl₁, sl₀, rfl⟩ := same_two su
        simp only [Apart, List.forall_mem_cons, List.not_mem_nil, false_implies, implies_true, and_true]
        exact hfp
  · rintro ⟨n₅, ts, tn⟩ u h tk hi hP hF hN
    dsimp only [kstB] at hF hN hi hP
    have hln : tn.length < 900 := by have e1 := rm_len (dd ns) hP; have e2 := dd_len ms; omega
    (try dsimp only); (try k_fold)
    k_steps
    have eb : (!decide (0 < tn.length)) = cmpL ns ms := by
      rw [cmpL_some hP]
      cases tn with
      | nil => rfl
      | cons a r => simp
    rw [eb]
    refine ret _ _ _ [(ap, listOf vs.toArray n), (bp, listOf us.toArray n₂)] [(L₁, o₁), (L₀, o₀)] hF.keep (TI.SameUp.refl _) (fun p hp => beside_of hN p (by
      simp only [List.cons_append, List.nil_append, List.mem_cons, List.not_mem_nil, or_false] at hp
      simp only [List.mem_cons]
      rcases hp with rfl | rfl | rfl | rfl <;> simp)) ?_ ⟨rfl, rfl⟩
    simp only [Apart, List.forall_mem_cons, List.not_mem_nil, false_implies, implies_true, and_true]
    exact hfp
end Mine
end

section
open PySem PySem.W PyProof.Rows PySem.Calls
set_option Elab.async false
set_option maxRecDepth 100000
set_option linter.unusedVariables false
namespace Mine
section
variable {prog : Program} {w : World} {A : Around} {E : Value → Shared → Prop} {s : Shared} {h₀ : Heap} {L l : Addr} {m : Str → Option Value} {news : List (Addr × Obj)} {value slice : PySem.Expr} {vs : List Value} {ns : List Int} {vl vu : Value} {lo hi : Option Int} {Q : Value → Shared → Prop} {n : Nat}
theorem slice_flat {ms : List Int} {h : Heap} {gs : Array GenState} {dr : Drawn} {tk : Nat} {os : OsState} (F : Fr h₀ L h m) (N : News h₀ L h news) (hl : (l, listOf vs.toArray n) ∈ news) (pl : IsPart vl lo) (pu : IsPart vu hi) (hi' : IntsAre vs ns) (hm : IntsAre (slicePick vs.toArray lo hi none).toList ms) (hz : ns.length < 2000)
    (k : ∀ D ws h', Fr h₀ L h' m → News h₀ L h' ((D, listOf (List.toArray ws) 0) :: news) → (∀ p ∈ news, p.1 < D) → IntsAre ws ms → ms.length ≤ ns.length → Q (.ref D) ⟨h', gs, dr, tk, os⟩)
    (hs : subscripted slice false (.ref l) (.ref h.objs.size) = operate [.ref h.objs.size, .ref l] (getItem (.ref l) (.ref h.objs.size))) (ht : ∀ r, letTemporaryGo value (.ref l) r = pure ()) :
    wpAny (model prog w) A (subscriptTail value slice (.ref l) (.ref h.objs.size)) Q E ⟨h.push { cls := .type "slice", data := .fields #[vl, vu, .none] }, gs, dr, tk, os⟩ :=
  kmk_slice_ints (s := ⟨h, gs, dr, tk, os⟩) F N (PySem.IsL.isList (n := n) (N _ hl).1) pl pu hi' hm rfl (fun D ws h' F' N' l1 hI _ hle => k D ws h' F' N' l1 hI hle) hs ht (kmk_sz hi' (by rw [sizeLine_eq]; omega))
end
end Mine
end

section
open PySem PySem.W PyProof.Rows PySem.Calls
set_option Elab.async false
set_option maxRecDepth 100000
set_option linter.unusedVariables false
namespace Mine
local macro_rules | `(tactic| walk_at "mine pad 1") => `(tactic| skip)
local macro_rules | `(tactic| walk_at "binaryOp RShift int int") => `(tactic| (refine rshift_half ?hq ?_; (case hq => omega); intro _ _))
local macro_rules | `(tactic| k_room) => `(tactic| (simp only [depth_deeper, depth_in1, recursionLimit] at *; omega))
local macro_rules | `(tactic| walk_at "exec While Compare cons nil") => `(tactic| k_extra "mine while")
local macro_rules | `(tactic| walk_at "KswEnd") => `(tactic| k_extra "mine end")
local macro_rules | `(tactic| walk_at "InvEndN") => `(tactic| (refine halt ?_))
local macro_rules | `(tactic| walk_at "mine enter") => `(tactic| (
  refine' enter ?k1 (Top.nolimit ?k2) ?k3 ?k4 ?k5 ?k6 ?k7 ?k8 ?k9 ?kB ?_ ?c2 ?c3 ?c4 ?c5
  (case k1 => assumption)
  (case k2 => assumption)
  (case k3 => assumption)
  (case k4 => assumption)
  (case k5 => assumption)
  (case k6 => k_is)
  (case k7 => k_is)
  (case k8 => ((show _ < 1000); dsimp only; omega))
  (case k9 => exact BindsTo.of_eq rfl)
  (case c5 => decide)
  (case kB => exact locs rfl)
  (case c2 => exact rfl)
  (case c3 => exact rfl)
  (case c4 => exact rfl)))
local macro_rules | `(tactic| walk_at "mine rest") => `(tactic| ((try dsimp only [List.map, List.cons_append, List.nil_append]); first | exact Rest.nil | (refine' Rest.skip ?a ?b; (case a => k_mem); (case b => walk_at "mine rest")) | (refine' Rest.keep ?a ?b; (case a => with_reducible k_all); (case b => walk_at "mine rest"))))
local macro_rules | `(tactic| walk_at "mine pre") => `(tactic| (repeat (first | exact List.forall_mem_nil _ | refine List.forall_mem_cons.mpr ⟨by k_mem, ?_⟩)))
local macro_rules | `(tactic| walk_at "mine bound") => `(tactic| ((try dsimp only [Around.deeper, Around.in1]); with_reducible omega))
local macro_rules | `(tactic| walk_at "call ref") => `(tactic| (k_here; refine halt ?_))
local macro_rules | `(tactic| walk_at "pyIter ref") => `(tactic| (k_here; refine halt ?_))
local macro_rules | `(tactic| walk_at "compareOp NotIn int ref") => `(tactic| (k_here; k_dflt (refine' notin_list_ints ?l ?i ?_; (case l => exact News.isList (by k_asm) (by k_mem)); (case i => with_reducible assumption); k_whole)))
local macro_rules | `(tactic| walk_at "subscriptTail Name Slice ref ref") => `(tactic| (k_here; (with_reducible show wpAny _ _ (subscriptTail _ (PySem.Expr.Slice _ _ none _) (Value.ref _) (Value.ref _)) _ _ _); (try dsimp only); k_dflt (refine' slice_flat ?F ?N ?l ?p ?q ?i ?m ?z ?_ ?s ?t; (case F => k_asm); (case N => k_asm); (case l => k_mem); (case p => kmk_part); (case q => kmk_part); (case i => with_reducible assumption); (case m => first | exact kmk_from (by with_reducible assumption) (by omega) | exact kmk_upto (by with_reducible assumption) (by omega)); (case z => ((try simp only [List.length_append, List.length_cons, List.length_nil, List.length_take, List.length_drop]); omega)); (case s => with_unfolding_all rfl); (case t => kmk_pure)); intro D' ws' h' F' N' l1 hI' hL'; (try simp only [Int.reduceNeg, Int.neg_neg, Int.reduceToNat] at hI' hL'); (try k_lt l1); (try k_sweep)))
local macro_rules | `(tactic| walk_at "mine enterC") => `(tactic| (
  refine' enterC ?k1 (Top.nolimit ?k2) ?k3 ?k4 ?k5 ?k6 ?k7 ?k8 ?k9 ?kB ?kD ?_ ?c2 ?c3 ?c4
  (case k1 => assumption)
  (case k2 => assumption)
  (case k3 => assumption)
  (case k4 => assumption)
  (case k5 => assumption)
  (case k6 => k_is)
  (case k7 => k_is)
  (case k8 => ((show _ < 1000); dsimp only; omega))
  (case k9 => exact BindsTo.of_eq rfl)
  (case kB => exact rfl)
  (case kD => decide +kernel)
  (case c2 => exact rfl)
  (case c3 => exact rfl)
  (case c4 => exact rfl)))

set_option maxHeartbeats 8000000 in
theorem laid_does {w : World} {rp : Addr} {vs : List Value} {ns : List Int} {n : Nat} {x : Int} {t : Tok} (hI : IntsAre vs ns) (h3 : ns.length < 900) :
    Does w 83 [.ref rp, .int x t] [(rp, listOf vs.toArray n)] (fun v new => ∃ (l : Addr) (vs' : List Value) (n' : Nat), v = .ref l ∧ new = [(l, listOf vs'.toArray n'), (rp, listOf vs.toArray n)] ∧ @Ne Nat l rp ∧ IntsAre vs' (laidL ns x)) 4 := by
  w_top off
  unfold Does
  k_fill
  intro mg mb loose mean dp un gd g outer s Q E X T st hsz hdp hun N ret
  walk_at "mine enterC"
  clear st hsz N
  intro L' h' tk' cells' F' N' Y' l1
  (try k_lt l1)
  k_cells Y'
  (try simp only [List.cons_append, List.nil_append] at N')
  (try dsimp only); (try k_fold)
  k_with_none
  k_steps
  all_goals (try k_data)
  k_made
  (rename CarriedAll _ _ => cA); (rename Heap.IsList _ _ _ => cL); clear cA cL
  (rename IntsAre _ (List.map _ _) => iX)
  rw [List.map_id'] at iX
  obtain ⟨pl, hpl⟩ : ∃ pl, pl = List.filter (fun a => decide (a ≤ x)) ns := ⟨_, rfl⟩
  have hple : pl.length ≤ ns.length := by rw [hpl]; exact List.length_filter_le ..
  have hvl := hI.length
  rw [← hpl] at iX
  k_steps
  (rename Fr _ _ _ _ => eF); (rename News _ _ _ _ => eN); (rename IntsAre _ _ => eI)
  refine ret _ _ _ _ eF.keep (beside_two eN (q := (rp, listOf vs.toArray n)) (by k_mem)) ⟨_, _, _, rfl, rfl, ?_, ?_⟩
  · omega
  · unfold laidL; rw [← hpl]
    rw [Int.toNat_natCast] at eI
    exact eI
end Mine
end

section
open PySem PySem.W PyProof.Rows PySem.Calls
set_option Elab.async false
set_option maxRecDepth 100000
set_option linter.unusedVariables false
namespace Mine
local macro_rules | `(tactic| walk_at "binaryOp RShift int int") => `(tactic| (refine rshift_half ?hq ?_; (case hq => omega); intro _ _))
local macro_rules | `(tactic| k_room) => `(tactic| (simp only [depth_deeper, depth_in1, recursionLimit] at *; omega))
local macro_rules | `(tactic| walk_at "exec While Compare cons nil") => `(tactic| k_extra "mine while")
local macro_rules | `(tactic| walk_at "KswEnd") => `(tactic| k_extra "mine end")
local macro_rules | `(tactic| walk_at "InvEndN") => `(tactic| (refine halt ?_))
local macro_rules | `(tactic| walk_at "mine enter") => `(tactic| (
  refine' enter ?k1 (Top.nolimit ?k2) ?k3 ?k4 ?k5 ?k6 ?k7 ?k8 ?k9 ?kB ?_ ?c2 ?c3 ?c4 ?c5
  (case k1 => assumption)
  (case k2 => assumption)
  (case k3 => assumption)
  (case k4 => assumption)
  (case k5 => assumption)
  (case k6 => k_is)
  (case k7 => k_is)
  (case k8 => ((show _ < 1000); dsimp only; omega))
  (case k9 => exact BindsTo.of_eq rfl)
  (case c5 => decide)
  (case kB => exact locs rfl)
  (case c2 => exact rfl)
  (case c3 => exact rfl)
  (case c4 => exact rfl)))
local macro_rules | `(tactic| walk_at "mine rest") => `(tactic| ((try dsimp only [List.map, List.cons_append, List.nil_append]); first | exact Rest.nil | (refine' Rest.skip ?a ?b; (case a => k_mem); (case b => walk_at "mine rest")) | (refine' Rest.keep ?a ?b; (case a => with_reducible k_all); (case b => walk_at "mine rest"))))
local macro_rules | `(tactic| walk_at "mine pre") => `(tactic| (repeat (first | exact List.forall_mem_nil _ | refine List.forall_mem_cons.mpr ⟨by k_mem, ?_⟩)))
local macro_rules | `(tactic| walk_at "mine bound") => `(tactic| ((try dsimp only [Around.deeper, Around.in1]); with_reducible omega))
local macro_rules | `(tactic| walk_at "call ref") => `(tactic| (k_here; refine halt ?_))
local macro_rules | `(tactic| walk_at "pyIter ref") => `(tactic| (k_here; refine halt ?_))
local macro_rules | `(tactic| walk_at "compareOp NotIn int ref") => `(tactic| (k_here; k_dflt (refine' notin_list_ints ?l ?i ?_; (case l => exact News.isList (by k_asm) (by k_mem)); (case i => with_reducible assumption); k_whole)))
local macro_rules | `(tactic| walk_at "subscriptTail Name Slice ref ref") => `(tactic| (k_here; (with_reducible show wpAny _ _ (subscriptTail _ (PySem.Expr.Slice _ _ none _) (Value.ref _) (Value.ref _)) _ _ _); (try dsimp only); k_dflt (refine' slice_flat ?F ?N ?l ?p ?q ?i ?m ?z ?_ ?s ?t; (case F => k_asm); (case N => k_asm); (case l => k_mem); (case p => kmk_part); (case q => kmk_part); (case i => with_reducible assumption); (case m => first | exact kmk_from (by with_reducible assumption) (by omega) | exact kmk_upto (by with_reducible assumption) (by omega)); (case z => ((try simp only [List.length_append, List.length_cons, List.length_nil, List.length_take, List.length_drop]); omega)); (case s => with_unfolding_all rfl); (case t => kmk_pure)); intro D' ws' h' F' N' l1 hI' hL'; (try simp only [Int.reduceNeg, Int.neg_neg, Int.reduceToNat] at hI' hL'); (try k_lt l1); (try k_sweep)))
local macro_rules | `(tactic| walk_at "mine enterC") => `(tactic| (
  refine' enterC ?k1 (Top.nolimit ?k2) ?k3 ?k4 ?k5 ?k6 ?k7 ?k8 ?k9 ?kB ?kD ?_ ?c2 ?c3 ?c4
  (case k1 => assumption)
  (case k2 => assumption)
  (case k3 => assumption)
  (case k4 => assumption)
  (case k5 => assumption)
  (case k6 => k_is)
  (case k7 => k_is)
  (case k8 => ((show _ < 1000); dsimp only; omega))
  (case k9 => exact BindsTo.of_eq rfl)
  (case kB => exact rfl)
  (case kD => decide +kernel)
  (case c2 => exact rfl)
  (case c3 => exact rfl)
  (case c4 => exact rfl)))
local macro_rules | `(tactic| walk_at "eval ListComp") => `(tactic| (k_here; refine halt ?_))
local macro_rules | `(tactic| walk_at "CompSrcT") => `(tactic| (k_here; refine halt ?_))
local macro_rules | `(tactic| walk_at "CompEnd") => `(tactic| (refine halt ?_))

set_option maxHeartbeats 8000000 in
theorem firsts_does {w : World} {rp : Addr} {vs : List Value} {ns : List Int} {n : Nat} (hI : IntsAre vs ns) (h3 : ns.length < 900) :
    Does w 88 [.ref rp] [(rp, listOf vs.toArray n)] (fun v new => ∃ (l : Addr) (vs' : List Value) (n' : Nat), v = .ref l ∧ new = [(l, listOf vs'.toArray n'), (rp, listOf vs.toArray n)] ∧ @Ne Nat l rp ∧ IntsAre vs' (dd ns)) 4 := by
  w_top off
  unfold Does
  k_fill
  intro mg mb loose mean dp un gd g outer s Q E X T st hsz hdp hun N ret
  walk_at "mine enterC"
  clear st hsz N
  intro L' h' tk' cells' F' N' Y' l1
  (try k_lt l1)
  k_cells Y'
  (try simp only [List.cons_append, List.nil_append] at N')
  (try dsimp only); (try k_fold)
  k_with_none
  k_steps
  refine Halt.go ?_
  refine LCt.ListComp_T (F₀ := by k_asm) (by with_unfolding_all rfl) (by decide) (by rfl) (by decide) (by rfl) ?_
  k_steps
  refine Halt.go ?_
  (rename Fr _ _ _ _ => cF); (rename News _ _ _ _ => cN); (rename IsRange _ _ _ _ _ _ _ _ => cR)
  refine LCt.CompSrcT.range (n := ns.length) rfl cF cN cR (small_one (by omega) (by omega) (by omega) (by omega)) (by first | rfl | (rw [rangeSize_nat]; simp)) (by rw [sizeLine_eq]; omega) ?_
  intro g'
  clear cF cN cR
  refine kci_range (firstsG ns) ?_ ?_ ?_
  · intro k t I oI C oC D m₂ ys l h tk E' hlo hhi hys hC hx F' N' off ne hmk
    simp only [LCg.Off3, and_true] at off
    (try dsimp only); (try k_fold)
    k_steps
    all_goals (
      refine Halt.go ?_
      (rename Fr _ _ _ _ => eF); (rename News _ _ _ _ => eN); (rename List.any _ _ = _ => hy))
    · refine LCg.CompEnd.intro eF eN _ (fun p hp => .tail _ hp) ?_ trivial ⟨rfl, ?_⟩
      · simp only [LCg.Off3, and_true]; exact off
      · unfold firstsG; rw [if_pos hy]
    · refine LCg.CompEnd.intro eF eN _ (fun p hp => .tail _ hp) ?_ trivial ⟨rfl, _, _, rfl, ?_⟩
      · simp only [LCg.Off3, and_true]; exact off
      · unfold firstsG; rw [if_neg (by rw [hy]; exact Bool.false_ne_true)]
  · intro ys hys hle
    intro D h tk eF eN off1
    (try dsimp only)
    k_steps
    simp only [LCg.Off1, and_true] at off1
    exact ret _ _ _ _ eF.keep (beside_two eN (q := (rp, listOf vs.toArray n)) (by k_mem)) ⟨_, _, _, rfl, rfl, by omega, by have e := firsts_range ns ns.length (Nat.le_refl _); rw [List.take_length] at e; rw [← e]; exact hys⟩
  · intro l k
    unfold firstsG
    split
    · omega
    · simp
end Mine
end

section
open PySem PySem.W PyProof.Rows PySem.Calls
set_option Elab.async false
set_option maxRecDepth 100000
set_option linter.unusedVariables false
namespace Mine
def boundFk : Obj := { cls := .type "builtin_function_or_method", data := .fields #[.builtin "dict.fromkeys", .type "dict"] }
theorem fk_type : typeOf (.builtin "dict.fromkeys") = pure (.type "classmethod_descriptor") := by show builtinType _ = _; rw [builtinType_eq_fast]; kernel_rfl
theorem fk_entry : entryFor table "dict.fromkeys" = some Builtin.«dict.fromkeys» := entryFor_of_tree (by kernel_rfl)
theorem fk_entry_loop : entryFor table "dict.fromkeys.loop" = some Builtin.«dict.fromkeys.loop» := entryFor_of_tree (by kernel_rfl)
theorem fk_plain_loop : plainId "dict.fromkeys.loop" = true := by decide +kernel
theorem fk_plain : plainId "dict.fromkeys" = true := by decide +kernel
theorem fk_quiet {as : Args} : (Code.builtin "dict.fromkeys" as).quiet = true := Code.quiet_builtin _ (by decide +kernel)
theorem fk_isType : isType (.type "dict") = pure true := by first | rfl | kernel_rfl | (unfold isType; rw [isSubtype_type]; kernel_rfl)
theorem fk_owner : (kfb_private% "ownerAndName") "dict.fromkeys" = ("dict", "fromkeys") := by first | decide +kernel | kernel_rfl
theorem fk_typeCall0 : checkTypeCall "dict" ⟨[], []⟩ = pure () := by kernel_rfl
theorem fk_newCall0 : checkBuiltinCall "dict.__new__" ⟨[.type "dict"], []⟩ = pure () := by kernel_rfl
theorem fk_args_init1 (a : Value) : argsOk "dict.__init__" ⟨[a], []⟩ := by unfold argsOk; kernel_rfl
theorem fk_check {l : Value} : checkBoundCall "dict.fromkeys" ⟨[.type "dict", l], []⟩ = pure () := by first | kernel_rfl | rfl

section
variable {prog : Program} {w : World} {M : Model} {A : Around} {E : Value → Shared → Prop} {s : Shared} {K : Frag} {h₀ : Heap} {L : Addr} {m : PySem.Str → Option Value} {news : List (Addr × Obj)} {u : Addr}

theorem fk_get {P : Fin → Shared → Prop} (h : P (.done (.ret (.ref s.heap.objs.size))) { s with heap := s.heap.push boundFk }) :
    wpAny M A (Builtin.«classmethod_descriptor.__get__» ⟨[.builtin "dict.fromkeys", .none, .type "dict"], []⟩) P E s := by
  unfold Builtin.«classmethod_descriptor.__get__»
  refine wpAny_bind (wpAny_of_eq (a := (.builtin "dict.fromkeys", none, some (.type "dict"))) (by first | rfl | kernel_rfl) ?_)
  simp only [fk_owner]
  refine wpAny_bind (wpAny_of_eq (a := .type "dict") rfl ?_)
  refine wpAny_bind (wpAny_of_eq (a := true) fk_isType ?_)
  refine KFB.if_not rfl ?_
  refine wpAny_bind (wpAny_of_eq (a := true) F.kt_sub_dict ?_)
  refine KFB.if_not rfl ?_
  exact wpAny_bind (wpAny_newObj_type (wpAny_pure h))

theorem fk_getm {pl : Sem Bool} {Q : Value × List Value → Shared → Prop} (F : Fr h₀ L s.heap m) (N : News h₀ L s.heap news) (X₀ : K.In h₀)
    (e : findCls K (.type "dict") (.type "type") (PySem.Str.ofString "fromkeys") = some (.get (.builtin "classmethod_descriptor.__get__") (.builtin "dict.fromkeys") .none (.type "dict")))
    (h : ∀ x h' tk, Fr h₀ L h' m → News h₀ L h' ((x, boundFk) :: news) → (∀ p ∈ news, p.1 < x) → Q (.ref x, []) { s with heap := h', toks := tk }) :
    wpAny (model prog w) A (getMethod (.type "dict") (PySem.Str.ofString "fromkeys") pl) Q E s := by
  have X := X₀.keeps F.keep
  have hstub : opaqueClassAbove (.type "dict") = pure none := by unfold opaqueClassAbove; dsimp only; rw [show Manifest.isStub "dict" = false by decide +kernel]; rfl
  have ht : typeOf (.type "dict") = pure (.type "type") := by first | rfl | kernel_rfl
  have L0 : Looks (model prog w) s.heap (typeOf (.type "dict")) (.type "type") := Looks.of_pure ht
  have hg : findIn K (.type "type") "__getattribute__" = some (some (.builtin "type.__getattribute__")) := type_tga
  unfold getMethod specialOf
  refine wpAny_bind (wpAny_bind (L0.here ((looks_findIn X hg).here ?_)))
  dsimp only
  rw [if_pos canon_tga]
  refine wpAny_bind (wpAny_mono (Q := fun v => Q (v, [])) (E := E) ?_ (fun _ _ z => wpAny_pure z) fun _ _ z => z)
  have LO : Looks (model prog w) s.heap (opaqueClassAbove (.type "dict")) none := Looks.of_pure hstub
  refine cls_open X LO L0 hg (looks_hook X (r := none) (by rfl)) (by show subIn K _ _ = _; rfl) e ?_
  show wpAny _ _ (holding [.builtin "dict.fromkeys"] (call (.builtin "classmethod_descriptor.__get__") [.builtin "dict.fromkeys", .none, .type "dict"]) >>= fun v => ret v) _ _ _
  refine wpAny_bind (wpAny_holding (wpAny_call_entry KFB.slot_get fk_type KFB.entry_get (fk_get ⟨_, rfl, wpAny_pure (wpAny_pure (h _ _ _ (F.push _) (News.push F N _) fun p hp => Heap.lt_size (N p hp).1))⟩) (KFB.args_get _ _ _)))

/-- the interpreter itself keeps what the bound fromkeys is handed -/
theorem fk_keeper (h : Heap) (hu : h.get? u = some boundFk) : ∃ k, (k = Keeper.frame ∨ k = Keeper.machine ∨ k = Keeper.boundFrame) ∧ Looks M h (keeperOf (.ref u)) k :=
  ⟨_, .inr (.inl rfl), (Looks.ld (part := none) hu).andThen (Looks.of_pure (by rfl))⟩
theorem fk_callWith {pos : Pos} {first : List Value} {env : Env} {e : Expr} {rest : List Expr} {Q : Value → Shared → Prop}
    (h : wpAny M A (spliced (backTo pos (starEach (e :: rest) env))) (fun vs s₁ => s₁.heap.get? u = some boundFk ∧ wpAny M A (call (.ref u) (first ++ vs)) Q E s₁) E s)
    (he : starEach (e :: rest) env = (false, eval e env) :: starEach rest env := by rfl) (hz : (backTo pos (starEach (e :: rest) env)).any (·.1) = false := by rfl) :
    wpAny M A (callWith pos (.ref u) first (backTo pos (starEach (e :: rest) env)) []) Q E s :=
  callWith_of (by rw [hz]; rfl) fk_keeper (by rw [he] at h ⊢; exact evalArgs_plain h)

theorem fk_call_dict0 {Q : Value → Shared → Prop} (h : Q (.ref s.heap.objs.size) { s with heap := s.heap.push { cls := .type "dict", data := .dict #[] } }) : wpAny (model prog w) A (call (.type "dict") []) Q E s := by
  refine callType_codes (Q₁ := fun obj s₁ => obj = .ref s.heap.objs.size ∧ s₁ = { s with heap := s.heap.push { cls := .type "dict", data := .dict #[] } }) F.kt_called_dict fk_typeCall0 F.entry_dict_init ?_ ?_
  · refine codeAny_call_builtin F.kt_plain_dict_new F.kt_entry_dict_new (wpAny_of_eq fk_newCall0 ?_)
    have hsub := F.kt_sub_dict
    have hmro := F.kt_mro_dict
    obtain ⟨hp, g, d, tk, os⟩ := s
    unfold Builtin.«dict.__new__»
    wp_walk
    exact ⟨rfl, rfl⟩
  · rintro obj s₁ ⟨rfl, rfl⟩
    have hT : (⟨s.heap.push { cls := .type "dict", data := .dict #[] }, s.gens, s.drawn, s.toks, s.os⟩ : Shared).TypeIs (.ref s.heap.objs.size) "dict" := ⟨_, Heap.get?_push_size _ rfl, rfl⟩
    refine ⟨hT, fk_args_init1 _, ?_⟩
    unfold Builtin.«dict.__init__»
    refine wpAny_bind ?_
    unfold Builtin.Dict.selfAndRest
    refine wpAny_bind (wpAny_notOrdered_dict hT ?_)
    show wpAny _ _ (pure (s.heap.objs.size, [])) _ _ _
    refine wpAny_pure ?_
    show wpAny _ _ (Builtin.Dict.addKeywords s.heap.objs.size [] >>= fun _ => ret .none) _ _ _
    exact wpAny_bind (wpAny_pure (wpAny_pure ⟨rfl, h⟩))
end
end Mine
end

section
open PySem PySem.W PyProof.Rows PySem.Calls
set_option Elab.async false
set_option maxRecDepth 100000
set_option linter.unusedVariables false
namespace Mine
theorem stored_keys (kvs : List (Int × Value)) (k : Int) (v : Value) : (stored kvs k v).map (·.1) = if (kvs.map (·.1)).any (· == k) = true then kvs.map (·.1) else kvs.map (·.1) ++ [k] := by
  have e : (kvs.any fun kv => decide (kv.1 = k)) = (kvs.map (·.1)).any (· == k) := by
    rw [List.any_map]
    congr 1
  unfold stored
  rw [e]
  split
  · exact keys_map_store kvs k v
  · rw [List.map_append]; rfl
theorem dd_take {ns : List Int} {i : Nat} {k : Int} (h : ns[i]? = some k) : dd (ns.take (i + 1)) = if (dd (ns.take i)).any (· == k) = true then dd (ns.take i) else dd (ns.take i) ++ [k] := by
  have e : ns.take (i + 1) = ns.take i ++ [k] := by rw [List.take_add_one, h]; rfl
  rw [e]
  split
  · rename_i hx; exact dd_in hx
  · rename_i hx; exact dd_out hx

section
variable {prog : Program} {w : World} {A : Around} {E : Value → Shared → Prop} {h₀ : Heap} {L : Addr} {m : PySem.Str → Option Value} {news : List (Addr × Obj)}
theorem fk_loop {D I l : Addr} {vs : List Value} {ns : List Int} {R : Result → Shared → Prop} (hi : IntsAre vs ns) (hz : ns.length < 900) (hlI : l ≠ I) (hDI : D ≠ I) (hDl : D ≠ l) (hh : A.handled = none) :
    ∀ (k i : Nat) (s : Shared) (kvs : List (Int × Value)), i + k = ns.length → s.heap.IsListIter I l i → s.heap.IsList l vs.toArray → s.heap.DictOf (intKind prog w) D kvs → kvs.map (·.1) = dd (ns.take i) →
      (∀ h' tk kvs', h'.DictOf (intKind prog w) D kvs' → kvs'.map (·.1) = dd ns → (∀ b o, b ≠ I → b ≠ D → s.heap.get? b = some o → h'.get? b = some o) → R (.ok (.ret (.ref D))) { s with heap := h', toks := tk }) →
      codeAny (model prog w) A (.builtin "dict.fromkeys.loop" ⟨[.ref D, .ref I, .none], []⟩) R s := by
  have hlen : vs.toArray.size = ns.length := by rw [List.size_toArray, hi.length]
  have W := Walks.list (prog := prog) (w := w) (A := A.in1) hh I l hlI vs.toArray
  intro k
  induction k with
  | zero =>
    intro i s kvs hik hit hl hd hk hR
    refine codeAny_builtin fk_entry_loop ?_
    rw [Around.under_plainId fk_plain_loop _]
    unfold Builtin.«dict.fromkeys.loop»
    have hn : i = vs.toArray.size := by omega
    refine wpAny_bind (W.done s _ _ ⟨hn ▸ hit, hl⟩ fun h' tk hkeep => ?_)
    refine wpAny_pure (hR h' tk kvs ?_ ?_ fun b o hb _ e => hkeep b o (by simpa using hb) e)
    · obtain ⟨o, es, ep, ho, r⟩ := hd
      exact ⟨o, es, ep, hkeep D o (by simpa using hDI) ho, r⟩
    · rw [hk]; congr 1; exact List.take_of_length_le (by omega)
  | succ k ih =>
    intro i s kvs hik hit hl hd hk hR
    refine codeAny_builtin fk_entry_loop ?_
    rw [Around.under_plainId fk_plain_loop _]
    unfold Builtin.«dict.fromkeys.loop»
    refine wpAny_bind (W.item i s _ _ (by omega) ⟨hit, hl⟩ fun v h' tk hv st' hkeep => ?_)
    obtain ⟨x, t, hx, hxv⟩ : ∃ x t, ns[i]? = some x ∧ v = .int x t := by
      obtain ⟨x, t, e, hx⟩ := IntsAre.at hi i v (by simpa using hv)
      exact ⟨x, t, hx, e⟩
    subst hxv
    have hd' : h'.DictOf (intKind prog w) D kvs := by
      obtain ⟨o, es, ep, ho, r⟩ := hd
      exact ⟨o, es, ep, hkeep D o (by simpa using hDI) ho, r⟩
    have hkl : kvs.length ≤ ns.length := by
      have e1 := congrArg List.length hk
      have e2 := dd_len (ns.take i)
      rw [List.length_map] at e1
      rw [List.length_take] at e2
      omega
    dsimp only
    refine wpAny_bind (wpAny_typeOf (s := { s with heap := h', toks := tk }) hd'.typeIs ?_)
    simp only [beq_self_eq_true, if_true]
    refine wpAny_bind (wpAny_of_eq (a := D) rfl ?_)
    refine wpAny_bind (wpAny_holding ?_)
    refine wpAny_dictSet_pairs (s := { s with heap := h', toks := tk }) (intKind_is prog w x t) hd' (fun h'' hd'' hs'' => ?_) (by rw [sizeLine_eq]; omega)
    refine wpAny_pure ⟨plainId_quiet fk_plain_loop _, ?_⟩
    have hIk : ∀ b o, b ≠ I → b ≠ D → s.heap.get? b = some o → h''.get? b = some o := fun b o hb hbD e => (hs''.2 b hbD).trans (hkeep b o (by simpa using hb) e)
    refine ih (i + 1) _ (stored kvs x .none) (by omega) (st'.1.at fun o e => (hs''.2 I (Ne.symm hDI)).trans e) (st'.2.at fun o e => (hs''.2 l (Ne.symm hDl)).trans e) hd'' ?_ fun h₃ tk₃ kvs₃ hd₃ hk₃ hkeep₃ => ?_
    · rw [stored_keys, dd_take hx, hk]
    · exact hR h₃ tk₃ kvs₃ hd₃ hk₃ fun b o hb hbD e => hkeep₃ b o hb hbD (hIk b o hb hbD e)

theorem fk_call {s : Shared} {x l : Addr} {vs : List Value} {ns : List Int} {n : Nat} {Q : Value → Shared → Prop} (F : Fr h₀ L s.heap m) (N : News h₀ L s.heap news) (hx : s.heap.get? x = some boundFk) (hm : (l, listOf vs.toArray n) ∈ news) (hi : IntsAre vs ns) (hz : ns.length < 900) (hh : A.handled = none)
    (h : ∀ d od h' tk kvs, Fr h₀ L h' m → News h₀ L h' ((d, od) :: news) → (∀ p ∈ news, p.1 < d) → L < d → od.IsDictOf (intKind prog w) kvs → kvs.map (·.1) = dd ns → Q (.ref d) { s with heap := h', toks := tk }) :
    wpAny (model prog w) A (call (.ref x) [.ref l]) Q E s := by
  have hlo := (N _ hm).1
  have hll := Heap.lt_size hlo
  refine wpAny_call (codeAny_of_tree ?_)
  show wpAny _ A.in1 (callAny (.ref x) ⟨[.ref l], []⟩) _ _ s
  simp only [callAny]
  refine wpAny_bind (wpAny_load hx ?_)
  simp only [boundFk, show (Value.type "builtin_function_or_method" == Value.type "method" || Value.type "builtin_function_or_method" == Value.type "builtin_function_or_method" || Value.type "builtin_function_or_method" == Value.type "method-wrapper") = true by decide, if_true]
  refine KFB.if_so (by decide) ?_
  refine wpAny_bind (wpAny_of_eq (a := ()) fk_check ?_)
  refine wpAny_bind (wpAny_pure (wpAny_pure ?_))
  refine ⟨fk_quiet, codeAny_builtin fk_entry ?_⟩
  rw [Around.under_plainId fk_plain _]
  show wpAny _ _ (Builtin.«dict.fromkeys» ⟨[.type "dict", .ref l], []⟩) _ _ _
  unfold Builtin.«dict.fromkeys»
  refine wpAny_bind (wpAny_of_eq (a := true) fk_isType ?_)
  refine KFB.if_not rfl ?_
  refine wpAny_bind (wpAny_of_eq (a := true) PySem.F.kt_sub_dict ?_)
  refine KFB.if_not rfl ?_
  refine KFB.if_not rfl ?_
  refine wpAny_bind (wpAny_rule ?_)
  refine wpAny_bind (wpAny_pure ?_)
  dsimp only
  refine wpAny_bind (fk_call_dict0 ?_)
  refine wpAny_holding ?_
  have hl1 : (s.heap.push { cls := .type "dict", data := .dict #[] }).get? l = some (listOf vs.toArray n) := Heap.get?_push_of_some _ hlo
  have hd1 : (s.heap.push { cls := .type "dict", data := .dict #[] }).DictOf (intKind prog w) s.heap.objs.size [] := Heap.DictOf.new s.heap
  refine wpAny_bind (wpAny_typeOf (T := "list") ⟨_, hl1, rfl⟩ ?_)
  refine wpAny_bind (wpAny_typeOf (T := "dict") hd1.typeIs ?_)
  refine KFB.if_not (by decide) ?_
  refine wpAny_bind (wpAny_typeOf (T := "dict") hd1.typeIs ?_)
  refine KFB.if_not (by decide) ?_
  refine wpAny_bind (wpAny_pyIter_list ⟨_, hl1, rfl, _, rfl⟩ ?_)
  refine wpAny_pure ⟨plainId_quiet fk_plain_loop _, ?_⟩
  have hlne : l ≠ s.heap.objs.size := Nat.ne_of_lt hll
  have hsz1 : (s.heap.push { cls := .type "dict", data := .dict #[] }).objs.size = s.heap.objs.size + 1 := Heap.size_push _ _
  refine fk_loop (A := A) hi hz (by rw [hsz1]; exact Nat.ne_of_lt (Nat.lt_succ_of_lt hll)) (by rw [hsz1]; exact Nat.ne_of_lt (Nat.lt_succ_self _)) (Ne.symm hlne) hh ns.length 0 _ [] (by omega) ⟨_, Heap.get?_push_size _ rfl, rfl, rfl⟩ ⟨_, Heap.get?_push_of_some _ hl1, rfl, _, rfl⟩ (hd1.push _) (by rw [List.take_zero]; rfl) fun h' tk kvs hd' hk' hkeep => ?_
  have up : ∀ b o, s.heap.get? b = some o → h'.get? b = some o := fun b o e => hkeep b o (by rw [hsz1]; exact Nat.ne_of_lt (Nat.lt_succ_of_lt (Heap.lt_size e))) (Nat.ne_of_lt (Heap.lt_size e)) (Heap.get?_push_of_some _ (Heap.get?_push_of_some _ e))
  obtain ⟨o, es, ep, ho, r⟩ := hd'
  refine h s.heap.objs.size o h' tk kvs (F.keeps up) (fun p hp => ?_) (fun p hp => Heap.lt_size (N p hp).1) F.ns.lt ⟨es, ep, r⟩ hk'
  rcases List.mem_cons.mp hp with rfl | hp
  · refine ⟨ho, Nat.ne_of_gt F.ns.lt, ?_⟩
    cases q : h₀.get? s.heap.objs.size with
    | none => rfl
    | some o' => exact absurd (Heap.lt_size (F.keep _ _ q)) (Nat.lt_irrefl _)
  · exact ⟨up _ _ (N p hp).1, (N p hp).2⟩
end
end Mine
end

section
open PySem PySem.W PyProof.Rows PySem.Calls
set_option Elab.async false
set_option maxRecDepth 100000
set_option linter.unusedVariables false
namespace Mine
local macro_rules | `(tactic| walk_at "binaryOp RShift int int") => `(tactic| (refine rshift_half ?hq ?_; (case hq => omega); intro _ _))
local macro_rules | `(tactic| k_room) => `(tactic| (simp only [depth_deeper, depth_in1, recursionLimit] at *; omega))
local macro_rules | `(tactic| walk_at "exec While Compare cons nil") => `(tactic| k_extra "mine while")
local macro_rules | `(tactic| walk_at "KswEnd") => `(tactic| k_extra "mine end")
local macro_rules | `(tactic| walk_at "InvEndN") => `(tactic| (refine halt ?_))
local macro_rules | `(tactic| walk_at "mine enter") => `(tactic| (
  refine' enter ?k1 (Top.nolimit ?k2) ?k3 ?k4 ?k5 ?k6 ?k7 ?k8 ?k9 ?kB ?_ ?c2 ?c3 ?c4 ?c5
  (case k1 => assumption)
  (case k2 => assumption)
  (case k3 => assumption)
  (case k4 => assumption)
  (case k5 => assumption)
  (case k6 => k_is)
  (case k7 => k_is)
  (case k8 => ((show _ < 1000); dsimp only; omega))
  (case k9 => exact BindsTo.of_eq rfl)
  (case c5 => decide)
  (case kB => exact locs rfl)
  (case c2 => exact rfl)
  (case c3 => exact rfl)
  (case c4 => exact rfl)))
local macro_rules | `(tactic| walk_at "mine rest") => `(tactic| ((try dsimp only [List.map, List.cons_append, List.nil_append]); first | exact Rest.nil | (refine' Rest.skip ?a ?b; (case a => k_mem); (case b => walk_at "mine rest")) | (refine' Rest.keep ?a ?b; (case a => with_reducible k_all); (case b => walk_at "mine rest"))))
local macro_rules | `(tactic| walk_at "mine pre") => `(tactic| (repeat (first | exact List.forall_mem_nil _ | refine List.forall_mem_cons.mpr ⟨by k_mem, ?_⟩)))
local macro_rules | `(tactic| walk_at "mine bound") => `(tactic| ((try dsimp only [Around.deeper, Around.in1]); with_reducible omega))
local macro_rules | `(tactic| walk_at "call ref") => `(tactic| (k_here; refine halt ?_))
local macro_rules | `(tactic| walk_at "pyIter ref") => `(tactic| (k_here; refine halt ?_))
local macro_rules | `(tactic| walk_at "compareOp NotIn int ref") => `(tactic| (k_here; k_dflt (refine' notin_list_ints ?l ?i ?_; (case l => exact News.isList (by k_asm) (by k_mem)); (case i => with_reducible assumption); k_whole)))
local macro_rules | `(tactic| walk_at "subscriptTail Name Slice ref ref") => `(tactic| (k_here; (with_reducible show wpAny _ _ (subscriptTail _ (PySem.Expr.Slice _ _ none _) (Value.ref _) (Value.ref _)) _ _ _); (try dsimp only); k_dflt (refine' slice_flat ?F ?N ?l ?p ?q ?i ?m ?z ?_ ?s ?t; (case F => k_asm); (case N => k_asm); (case l => k_mem); (case p => kmk_part); (case q => kmk_part); (case i => with_reducible assumption); (case m => first | exact kmk_from (by with_reducible assumption) (by omega) | exact kmk_upto (by with_reducible assumption) (by omega)); (case z => ((try simp only [List.length_append, List.length_cons, List.length_nil, List.length_take, List.length_drop]); omega)); (case s => with_unfolding_all rfl); (case t => kmk_pure)); intro D' ws' h' F' N' l1 hI' hL'; (try simp only [Int.reduceNeg, Int.neg_neg, Int.reduceToNat] at hI' hL'); (try k_lt l1); (try k_sweep)))
local macro_rules | `(tactic| walk_at "mine enterC") => `(tactic| (
  refine' enterC ?k1 (Top.nolimit ?k2) ?k3 ?k4 ?k5 ?k6 ?k7 ?k8 ?k9 ?kB ?kD ?_ ?c2 ?c3 ?c4
  (case k1 => assumption)
  (case k2 => assumption)
  (case k3 => assumption)
  (case k4 => assumption)
  (case k5 => assumption)
  (case k6 => k_is)
  (case k7 => k_is)
  (case k8 => ((show _ < 1000); dsimp only; omega))
  (case k9 => exact BindsTo.of_eq rfl)
  (case kB => exact rfl)
  (case kD => decide +kernel)
  (case c2 => exact rfl)
  (case c3 => exact rfl)
  (case c4 => exact rfl)))
local macro_rules | `(tactic| walk_at "eval ListComp") => `(tactic| (k_here; refine halt ?_))
local macro_rules | `(tactic| walk_at "CompSrcT") => `(tactic| (k_here; refine halt ?_))
local macro_rules | `(tactic| walk_at "CompEnd") => `(tactic| (refine halt ?_))
local macro_rules | `(tactic| walk_at "getMethod type:dict") => `(tactic| (k_here; k_dflt (refine' fk_getm ?kfbF ?kfbN ?kfbX ?kfbE ?_; (case kfbF => k_asm); (case kfbN => k_asm); (case kfbX => k_asm); (case kfbE => k_is); k_whole; intro x' h' tk' F' N' l1; (try k_lt l1); (try k_sweep))))
local macro_rules | `(tactic| walk_at "callWith ref") => `(tactic| (k_here; refine halt ?_))
local macro_rules | `(tactic| walk_at "And") => `(tactic| (k_here; refine halt ?_))

set_option maxHeartbeats 8000000 in
theorem dedupD_does {w : World} {rp : Addr} {vs : List Value} {ns : List Int} {n : Nat} (hI : IntsAre vs ns) (h3 : ns.length < 900) :
    Does w 22 [.ref rp] [(rp, listOf vs.toArray n)] (fun v new => ∃ (d : Addr) (od : Obj) (kvs : List (Int × Value)), v = .ref d ∧ new = [(d, od), (rp, listOf vs.toArray n)] ∧ @Ne Nat d rp ∧ (d == sysModules) = false ∧ od.IsDictOf (intKind PySem.Challenge.rw_mq0166_01.row.prog w) kvs ∧ kvs.map (·.1) = dd ns) 4 := by
  w_top off
  unfold Does
  k_fill
  intro mg mb loose mean dp un gd g outer s Q E X T st hsz hdp hun N ret
  refine' enter X T.nolimit st hsz N ?k6 ?k7 ?k8 ?k9 ?kB ?_ ?c2 ?c3 ?c4 ?c5
  (case k6 => k_is)
  (case k7 => k_is)
  (case k8 => ((show _ < 1000); dsimp only; omega))
  (case k9 => exact kp_binds (binds := [(Str.ofString "params", Value.ref rp), (Str.ofString "unhashable_fallback", Value.bool false)]) (X.keeps st) (fun _ => by kernel_rfl))
  (case c5 => decide)
  (case kB => exact locs rfl)
  (case c2 => exact rfl)
  (case c3 => exact rfl)
  (case c4 => exact rfl)
  have hbig : 114 < g.objs.size := Heap.lt_size (X 114 _ (by k_is))
  clear st hsz N
  intro L' h' F' N' l1
  (try k_lt l1)
  (try dsimp only); (try k_fold)
  k_with_none
  k_steps
  refine Halt.go ?_
  refine fk_callWith ?_
  k_steps
  refine Halt.go ?_
  (rename Fr _ _ _ _ => cF); (rename News _ _ _ _ => cN)
  refine ⟨(cN _ (List.Mem.head _)).1, ?_⟩
  (try dsimp only [List.nil_append])
  refine fk_call cF cN (cN _ (List.Mem.head _)).1 (.tail _ (.head _)) hI h3 rfl ?_
  clear cF cN
  intro d od h' tk kvs eF eN l2 hLd hod hk
  k_lt l2
  (try dsimp only)
  k_steps
  refine ret _ _ _ _ eF.keep (beside_two eN (q := (rp, listOf vs.toArray n)) (by k_mem)) ⟨_, _, _, rfl, rfl, ?_, ?_, hod, hk⟩
  · omega
  · have h9 := eF.above
    have h10 : (1 : Nat) ≠ d := by
      have a1 : g.objs.size ≤ (L' : Nat) := h9
      have a2 : (L' : Nat) < d := hLd
      omega
    exact beq_false_of_ne (fun e => h10 e.symm)
end Mine
end

section
open PySem PySem.W PyProof.Rows PySem.Calls
set_option Elab.async false
set_option maxRecDepth 100000
set_option linter.unusedVariables false
namespace Mine
local macro_rules | `(tactic| walk_at "mine pad 1") => `(tactic| skip)
local macro_rules | `(tactic| walk_at "mine pad 2") => `(tactic| skip)
local macro_rules | `(tactic| walk_at "mine pad 3") => `(tactic| skip)
local macro_rules | `(tactic| walk_at "binaryOp RShift int int") => `(tactic| (refine rshift_half ?hq ?_; (case hq => omega); intro _ _))
local macro_rules | `(tactic| k_room) => `(tactic| (simp only [depth_deeper, depth_in1, recursionLimit] at *; omega))
local macro_rules | `(tactic| walk_at "exec While Compare cons nil") => `(tactic| k_extra "mine while")
local macro_rules | `(tactic| walk_at "KswEnd") => `(tactic| k_extra "mine end")
local macro_rules | `(tactic| walk_at "InvEndN") => `(tactic| (refine halt ?_))
local macro_rules | `(tactic| walk_at "mine enter") => `(tactic| (
  refine' enter ?k1 (Top.nolimit ?k2) ?k3 ?k4 ?k5 ?k6 ?k7 ?k8 ?k9 ?kB ?_ ?c2 ?c3 ?c4 ?c5
  (case k1 => assumption)
  (case k2 => assumption)
  (case k3 => assumption)
  (case k4 => assumption)
  (case k5 => assumption)
  (case k6 => k_is)
  (case k7 => k_is)
  (case k8 => ((show _ < 1000); dsimp only; omega))
  (case k9 => exact BindsTo.of_eq rfl)
  (case c5 => decide)
  (case kB => exact locs rfl)
  (case c2 => exact rfl)
  (case c3 => exact rfl)
  (case c4 => exact rfl)))
local macro_rules | `(tactic| walk_at "mine rest") => `(tactic| ((try dsimp only [List.map, List.cons_append, List.nil_append]); first | exact Rest.nil | (refine' Rest.skip ?a ?b; (case a => k_mem); (case b => walk_at "mine rest")) | (refine' Rest.keep ?a ?b; (case a => with_reducible k_all); (case b => walk_at "mine rest"))))
local macro_rules | `(tactic| walk_at "mine pre") => `(tactic| (repeat (first | exact List.forall_mem_nil _ | refine List.forall_mem_cons.mpr ⟨by k_mem, ?_⟩)))
local macro_rules | `(tactic| walk_at "mine bound") => `(tactic| ((try dsimp only [Around.deeper, Around.in1]); with_reducible omega))
local macro_rules | `(tactic| walk_at "call ref") => `(tactic| (k_here; refine halt ?_))
local macro_rules | `(tactic| walk_at "pyIter ref") => `(tactic| (k_here; refine halt ?_))
local macro_rules | `(tactic| walk_at "compareOp NotIn int ref") => `(tactic| (k_here; k_dflt (refine' notin_list_ints ?l ?i ?_; (case l => exact News.isList (by k_asm) (by k_mem)); (case i => with_reducible assumption); k_whole)))
local macro_rules | `(tactic| walk_at "subscriptTail Name Slice ref ref") => `(tactic| (k_here; (with_reducible show wpAny _ _ (subscriptTail _ (PySem.Expr.Slice _ _ none _) (Value.ref _) (Value.ref _)) _ _ _); (try dsimp only); k_dflt (refine' slice_flat ?F ?N ?l ?p ?q ?i ?m ?z ?_ ?s ?t; (case F => k_asm); (case N => k_asm); (case l => k_mem); (case p => kmk_part); (case q => kmk_part); (case i => with_reducible assumption); (case m => first | exact kmk_from (by with_reducible assumption) (by omega) | exact kmk_upto (by with_reducible assumption) (by omega)); (case z => ((try simp only [List.length_append, List.length_cons, List.length_nil, List.length_take, List.length_drop]); omega)); (case s => with_unfolding_all rfl); (case t => kmk_pure)); intro D' ws' h' F' N' l1 hI' hL'; (try simp only [Int.reduceNeg, Int.neg_neg, Int.reduceToNat] at hI' hL'); (try k_lt l1); (try k_sweep)))
local macro_rules | `(tactic| walk_at "mine enterC") => `(tactic| (
  refine' enterC ?k1 (Top.nolimit ?k2) ?k3 ?k4 ?k5 ?k6 ?k7 ?k8 ?k9 ?kB ?kD ?_ ?c2 ?c3 ?c4
  (case k1 => assumption)
  (case k2 => assumption)
  (case k3 => assumption)
  (case k4 => assumption)
  (case k5 => assumption)
  (case k6 => k_is)
  (case k7 => k_is)
  (case k8 => ((show _ < 1000); dsimp only; omega))
  (case k9 => exact BindsTo.of_eq rfl)
  (case kB => exact rfl)
  (case kD => decide +kernel)
  (case c2 => exact rfl)
  (case c3 => exact rfl)
  (case c4 => exact rfl)))
local macro_rules | `(tactic| walk_at "eval ListComp") => `(tactic| (k_here; refine halt ?_))
local macro_rules | `(tactic| walk_at "CompSrcT") => `(tactic| (k_here; refine halt ?_))
local macro_rules | `(tactic| walk_at "CompEnd") => `(tactic| (refine halt ?_))
local macro_rules | `(tactic| walk_at "getMethod type:dict") => `(tactic| (k_here; k_dflt (refine' fk_getm ?kfbF ?kfbN ?kfbX ?kfbE ?_; (case kfbF => k_asm); (case kfbN => k_asm); (case kfbX => k_asm); (case kfbE => k_is); k_whole; intro x' h' tk' F' N' l1; (try k_lt l1); (try k_sweep))))

set_option maxHeartbeats 8000000 in
theorem deed_does {w : World} {hp : Addr} {vs : List Value} {ns : List Int} {n : Nat} {x one : Int} {t1 t2 : Tok} (hI : IntsAre vs ns) (h2 : ns ≠ []) (h3 : ns.length < 900) :
    Does w 95 [.ref hp, .int x t1, .int one t2] [(hp, listOf vs.toArray n)] (fun v new => ∃ (t : Tok) (vs' : List Value) (n' : Nat), v = .int (deedV ns x one) t ∧ new = [(hp, listOf vs'.toArray n')] ∧ IntsAre vs' (deedL ns x one)) 8 := by
  w_top off
  unfold Does
  k_fill
  intro mg mb loose mean dp un gd g outer s Q E X T st hsz hdp hun N ret
  walk_at "mine enter"
  clear st hsz N
  intro L' h' F' N' l1
  (try k_lt l1)
  (try dsimp only); (try k_fold)
  k_with_none
  k_steps
  · (rename _ = (2 : Int) => hc)
    refine Halt.go ?_
    (rename Fr _ _ _ _ => cF); (rename News _ _ _ _ => cN)
    refine does_use (heappop_does hI h2 h3) cF X cN T rfl (by walk_at "mine bound") (by walk_at "mine bound") (by walk_at "mine pre") (by walk_at "mine rest") ?_
    clear cF cN
    intro v h' tk new hpost F' N' hap
    obtain ⟨t', vs', n', rfl, rfl, hI'⟩ := hpost
    (try simp only [List.cons_append, List.nil_append] at N'); (try dsimp only)
    (try simp only [Apart, List.forall_mem_cons, List.not_mem_nil, false_implies, implies_true, and_true] at hap)
    k_steps
    exact ret _ _ _ _ F'.keep (beside_of N') ⟨t', _, _, congrArg (fun z => Value.int z t') (by unfold deedV; rw [if_pos hc]), rfl, by unfold deedL; rw [if_pos hc]; exact hI'⟩
  · (rename _ ≠ (2 : Int) => hc); (rename _ = (1 : Int) => hd)
    refine Halt.go ?_
    (rename Fr _ _ _ _ => cF); (rename News _ _ _ _ => cN)
    refine does_use (heapreplace_does hI h2 h3) cF X cN T rfl (by walk_at "mine bound") (by walk_at "mine bound") (by walk_at "mine pre") (by walk_at "mine rest") ?_
    clear cF cN
    intro v h' tk new hpost F' N' hap
    obtain ⟨t', vs', n', rfl, rfl, hI'⟩ := hpost
    (try simp only [List.cons_append, List.nil_append] at N'); (try dsimp only)
    (try simp only [Apart, List.forall_mem_cons, List.not_mem_nil, false_implies, implies_true, and_true] at hap)
    k_steps
    exact ret _ _ _ _ F'.keep (beside_of N') ⟨t', _, _, congrArg (fun z => Value.int z t') (by unfold deedV; rw [if_neg hc, if_pos hd]), rfl, by unfold deedL; rw [if_neg hc, if_pos hd]; exact hI'⟩
  · (rename _ ≠ (2 : Int) => hc); (rename _ ≠ (1 : Int) => hd)
    refine Halt.go ?_
    (rename Fr _ _ _ _ => cF); (rename News _ _ _ _ => cN)
    refine does_use (heappushpop_does hI h3) cF X cN T rfl (by walk_at "mine bound") (by walk_at "mine bound") (by walk_at "mine pre") (by walk_at "mine rest") ?_
    clear cF cN
    intro v h' tk new hpost F' N' hap
    obtain ⟨t', vs', n', rfl, rfl, hI'⟩ := hpost
    (try simp only [List.cons_append, List.nil_append] at N'); (try dsimp only)
    (try simp only [Apart, List.forall_mem_cons, List.not_mem_nil, false_implies, implies_true, and_true] at hap)
    k_steps
    exact ret _ _ _ _ F'.keep (beside_of N') ⟨t', _, _, congrArg (fun z => Value.int z t') (by unfold deedV; rw [if_neg hc, if_neg hd]), rfl, by unfold deedL; rw [if_neg hc, if_neg hd]; exact hI'⟩

set_option maxHeartbeats 8000000 in
theorem due_does {w : World} {rp : Addr} {vs : List Value} {ns : List Int} {n : Nat} {x one : Int} {t1 t2 : Tok} (hI : IntsAre vs ns) (h2 : ns ≠ []) (h3 : ns.length < 900) (hx : x.fmod 4 ≠ 2) :
    Does w 102 [.ref rp, .int x t1, .int one t2] [(rp, listOf vs.toArray n)] (fun v new => ∃ (l : Addr) (vs' : List Value) (n' : Nat), v = .ref l ∧ new = [(l, listOf vs'.toArray n'), (rp, listOf vs.toArray n)] ∧ @Ne Nat l rp ∧ IntsAre vs' (dueL ns x one)) 8 := by
  w_top off
  unfold Does
  k_fill
  intro mg mb loose mean dp un gd g outer s Q E X T st hsz hdp hun N ret
  walk_at "mine enter"
  clear st hsz N
  intro L' h' F' N' l1
  (try k_lt l1)
  (try dsimp only); (try k_fold)
  k_with_none
  k_steps
  · (rename _ = (2 : Int) => hc); exact absurd hc hx
  · (rename _ = (1 : Int) => hd); (rename IntsAre _ (List.drop _ _) => iD); (rename List.length (List.drop _ _) ≤ _ => hdl)
    refine Halt.go ?_
    (rename Fr _ _ _ _ => cF); (rename News _ _ _ _ => cN)
    refine does_use (laid_does iD (by omega)) cF X cN T rfl (by walk_at "mine bound") (by walk_at "mine bound") (by walk_at "mine pre") (by walk_at "mine rest") ?_
    clear cF cN
    intro v h' tk new hpost F' N' hap
    obtain ⟨l, vs', n', rfl, rfl, hne, hI'⟩ := hpost
    (try simp only [List.cons_append, List.nil_append] at N'); (try dsimp only)
    (try simp only [Apart, List.forall_mem_cons, List.not_mem_nil, false_implies, implies_true, and_true] at hap)
    have hll : (laidL (List.drop 1 ns) one).length ≤ 900 := by unfold laidL; simp only [List.length_append, List.length_take, List.length_drop, List.length_cons, List.length_nil]; omega
    k_steps
    (rename Fr _ _ _ _ => eF); (rename News _ _ _ _ => eN); (rename IntsAre _ _ => eI)
    refine ret _ _ _ _ eF.keep (beside_two eN (q := (rp, listOf vs.toArray n)) (by k_mem)) ⟨_, _, _, rfl, rfl, ?_, ?_⟩
    · omega
    · unfold dueL; rw [if_neg hx, if_pos hd]; exact eI
  · (rename _ ≠ (1 : Int) => hd)
    refine Halt.go ?_
    (rename Fr _ _ _ _ => cF); (rename News _ _ _ _ => cN)
    refine does_use (laid_does hI h3) cF X cN T rfl (by walk_at "mine bound") (by walk_at "mine bound") (by walk_at "mine pre") (by walk_at "mine rest") ?_
    clear cF cN
    intro v h' tk new hpost F' N' hap
    obtain ⟨l, vs', n', rfl, rfl, hne, hI'⟩ := hpost
    (try simp only [List.cons_append, List.nil_append] at N'); (try dsimp only)
    (try simp only [Apart, List.forall_mem_cons, List.not_mem_nil, false_implies, implies_true, and_true] at hap)
    k_steps
    refine ret _ _ _ _ F'.keep (beside_of N') ⟨_, _, _, rfl, rfl, hne, ?_⟩
    unfold dueL; rw [if_neg hx, if_neg hd]; exact hI'

set_option maxHeartbeats 8000000 in
theorem due_same {w : World} {rp : Addr} {vs : List Value} {ns : List Int} {n : Nat} {x one : Int} {t1 t2 : Tok} (hI : IntsAre vs ns) (h3 : ns.length < 900) (hx : x.fmod 4 = 2) :
    Does w 102 [.ref rp, .int x t1, .int one t2] [(rp, listOf vs.toArray n)] (fun v new => v = .ref rp ∧ new = [(rp, listOf vs.toArray n)]) 8 := by
  w_top off
  unfold Does
  k_fill
  intro mg mb loose mean dp un gd g outer s Q E X T st hsz hdp hun N ret
  walk_at "mine enter"
  clear st hsz N
  intro L' h' F' N' l1
  (try k_lt l1)
  (try dsimp only); (try k_fold)
  k_with_none
  k_steps
  · exact ret _ _ _ _ F'.keep (beside_of N') ⟨rfl, rfl⟩
  all_goals (exfalso; (rename _ ≠ (2 : Int) => hc); exact hc hx)
end Mine
end

section
open PySem PySem.W PyProof.Rows PySem.Calls
set_option Elab.async false
set_option maxRecDepth 100000
set_option linter.unusedVariables false
namespace Mine
theorem Does.mono {w : World} {f : Addr} {args : List Value} {pre : List (Addr × Obj)} {post post' : Value → List (Addr × Obj) → Prop} {dep : Nat} (S : Does w f args pre post dep)
    (H : ∀ v new, post v new → ∃ new', (∀ p ∈ new', p ∈ new) ∧ post' v new') : Does w f args pre post' dep :=
  fun mg mb loose mean dp un gd g outer s Q E X T st hsz hdp hun N ret => S mg mb loose mean dp un gd g outer s Q E X T st hsz hdp hun N fun v h' tk new st' bs po =>
    let ⟨new', sub, po'⟩ := H v new po
    ret v h' tk new' st' (fun p hp => bs p (sub p hp)) po'
theorem due_any {w : World} {rp : Addr} {vs : List Value} {ns : List Int} {n : Nat} {x one : Int} {t1 t2 : Tok} (hI : IntsAre vs ns) (h2 : ns ≠ []) (h3 : ns.length < 900) :
    Does w 102 [.ref rp, .int x t1, .int one t2] [(rp, listOf vs.toArray n)] (fun v new => ∃ (l : Addr) (vs' : List Value) (n' : Nat), v = .ref l ∧ new = [(l, listOf vs'.toArray n')] ∧ IntsAre vs' (dueL ns x one)) 8 := by
  by_cases hx : x.fmod 4 = 2
  · refine Does.mono (due_same hI h3 hx) fun v new hp => ⟨new, fun p h => h, rp, vs, n, hp.1, hp.2, ?_⟩
    unfold dueL; rw [if_pos hx]; exact hI
  · refine Does.mono (due_does hI h2 h3 hx) ?_
    rintro v new ⟨l, vs', n', rfl, rfl, hne, hi⟩
    exact ⟨[(l, listOf vs'.toArray n')], fun p h => by rw [List.mem_singleton.mp h]; exact .head _, l, vs', n', rfl, rfl, hi⟩
end Mine
end

section
open PySem PySem.W PyProof.Rows PySem.Calls
set_option Elab.async false
set_option maxRecDepth 100000
set_option linter.unusedVariables false
namespace Mine
theorem same_ex {L : Addr} {o : Obj} {l : List (Addr × Obj)} (h : TI.SameUp [(L, o)] l) : ∃ o', l = [(L, o')] := by
  obtain ⟨sl, rfl⟩ := TLg.one_up h
  exact ⟨_, rfl⟩
theorem int_of_key {prog : Program} {w : World} {k : Int} {v : Value} (h : (intKind prog w).is k v = true) : ∃ t, v = .int k t := Value.isInt_shape h
theorem ints_of_keys {prog : Program} {w : World} : ∀ {kvs : List (Int × Value)} {vs : List Value}, vs.length = kvs.length → (∀ (j : Nat) (v : Value), vs[j]? = some v → ∃ k x, kvs[j]? = some (k, x) ∧ (intKind prog w).is k v = true) → IntsAre vs (kvs.map (·.1))
  | [], [], _, _ => .nil
  | kv :: kvs, v :: vs, hl, h => by
    obtain ⟨k, x, e, hk⟩ := h 0 v rfl
    obtain ⟨t, rfl⟩ := int_of_key hk
    have e' : kv = (k, x) := Option.some.inj e
    subst e'
    exact .cons k t (ints_of_keys (Nat.succ.inj hl) fun j v hj => h (j + 1) v hj)
section
variable {prog : Program} {w : World} {A : Around} {E : Value → Shared → Prop} {s : Shared} {h₀ : Heap} {L d : Addr} {m : PySem.Str → Option Value} {news : List (Addr × Obj)} {od : Obj} {kvs : List (Int × Value)} {Q : Value → Shared → Prop}
theorem list_dict (hh : A.handled = none) (F : Fr h₀ L s.heap m) (N : News h₀ L s.heap news) (hp : (d, od) ∈ news) (lo : (d == sysModules) = false) (hd : od.IsDictOf (intKind prog w) kvs) (hz : kvs.length < 900)
    (h : ∀ (B : Addr) c h' tk vs, Fr h₀ L h' m → News h₀ L h' ((B, listOf (List.toArray vs) c) :: news) → (∀ q ∈ news, q.1 < B) → IntsAre vs (kvs.map (·.1)) → Q (.ref B) { s with heap := h', toks := tk }) :
    wpAny (model prog w) A (call (.type "list") [.ref d]) Q E s := by
  obtain ⟨ep, hat⟩ := (kda_dict N hp hd).dictAt
  refine kdl_N (kdl_dict (knd := intKind prog w) (kvs := kvs) (ep := ep) lo) hh F N hat (by rw [sizeLine_eq]; omega) fun B c h' tk vs F' N' l1 hl hv => ?_
  exact h B c h' tk vs F' N' l1 (ints_of_keys hl hv)
end
end Mine
end

section
open PySem PySem.W PyProof.Rows PySem.Calls
set_option Elab.async false
set_option maxRecDepth 100000
set_option linter.unusedVariables false
namespace Mine
local macro_rules | `(tactic| walk_at "mine pad 1") => `(tactic| skip)
local macro_rules | `(tactic| walk_at "mine pad 2") => `(tactic| skip)
local macro_rules | `(tactic| walk_at "mine pad 3") => `(tactic| skip)
local macro_rules | `(tactic| walk_at "binaryOp RShift int int") => `(tactic| (refine rshift_half ?hq ?_; (case hq => omega); intro _ _))
local macro_rules | `(tactic| k_room) => `(tactic| (simp only [depth_deeper, depth_in1, recursionLimit] at *; omega))
local macro_rules | `(tactic| walk_at "exec While Compare cons nil") => `(tactic| k_extra "mine while")
local macro_rules | `(tactic| walk_at "KswEnd") => `(tactic| k_extra "mine end")
local macro_rules | `(tactic| walk_at "InvEndN") => `(tactic| (refine halt ?_))
local macro_rules | `(tactic| walk_at "mine enter") => `(tactic| (
  refine' enter ?k1 (Top.nolimit ?k2) ?k3 ?k4 ?k5 ?k6 ?k7 ?k8 ?k9 ?kB ?_ ?c2 ?c3 ?c4 ?c5
  (case k1 => assumption)
  (case k2 => assumption)
  (case k3 => assumption)
  (case k4 => assumption)
  (case k5 => assumption)
  (case k6 => k_is)
  (case k7 => k_is)
  (case k8 => ((show _ < 1000); dsimp only; omega))
  (case k9 => exact BindsTo.of_eq rfl)
  (case c5 => decide)
  (case kB => exact locs rfl)
  (case c2 => exact rfl)
  (case c3 => exact rfl)
  (case c4 => exact rfl)))
local macro_rules | `(tactic| walk_at "mine rest") => `(tactic| ((try dsimp only [List.map, List.cons_append, List.nil_append]); first | exact Rest.nil | (refine' Rest.skip ?a ?b; (case a => k_mem); (case b => walk_at "mine rest")) | (refine' Rest.keep ?a ?b; (case a => with_reducible k_all); (case b => walk_at "mine rest"))))
local macro_rules | `(tactic| walk_at "mine pre") => `(tactic| (repeat (first | exact List.forall_mem_nil _ | refine List.forall_mem_cons.mpr ⟨by k_mem, ?_⟩)))
local macro_rules | `(tactic| walk_at "mine bound") => `(tactic| ((try dsimp only [Around.deeper, Around.in1]); with_reducible omega))
local macro_rules | `(tactic| walk_at "call ref") => `(tactic| (k_here; refine halt ?_))
local macro_rules | `(tactic| walk_at "compareOp NotIn int ref") => `(tactic| (k_here; k_dflt (refine' notin_list_ints ?l ?i ?_; (case l => exact News.isList (by k_asm) (by k_mem)); (case i => with_reducible assumption); k_whole)))
local macro_rules | `(tactic| walk_at "subscriptTail Name Slice ref ref") => `(tactic| (k_here; (with_reducible show wpAny _ _ (subscriptTail _ (PySem.Expr.Slice _ _ none _) (Value.ref _) (Value.ref _)) _ _ _); (try dsimp only); k_dflt (refine' slice_flat ?F ?N ?l ?p ?q ?i ?m ?z ?_ ?s ?t; (case F => k_asm); (case N => k_asm); (case l => k_mem); (case p => kmk_part); (case q => kmk_part); (case i => with_reducible assumption); (case m => first | exact kmk_from (by with_reducible assumption) (by omega) | exact kmk_upto (by with_reducible assumption) (by omega)); (case z => ((try simp only [List.length_append, List.length_cons, List.length_nil, List.length_take, List.length_drop]); omega)); (case s => with_unfolding_all rfl); (case t => kmk_pure)); intro D' ws' h' F' N' l1 hI' hL'; (try simp only [Int.reduceNeg, Int.neg_neg, Int.reduceToNat] at hI' hL'); (try k_lt l1); (try k_sweep)))
local macro_rules | `(tactic| walk_at "mine enterC") => `(tactic| (
  refine' enterC ?k1 (Top.nolimit ?k2) ?k3 ?k4 ?k5 ?k6 ?k7 ?k8 ?k9 ?kB ?kD ?_ ?c2 ?c3 ?c4
  (case k1 => assumption)
  (case k2 => assumption)
  (case k3 => assumption)
  (case k4 => assumption)
  (case k5 => assumption)
  (case k6 => k_is)
  (case k7 => k_is)
  (case k8 => ((show _ < 1000); dsimp only; omega))
  (case k9 => exact BindsTo.of_eq rfl)
  (case kB => exact rfl)
  (case kD => decide +kernel)
  (case c2 => exact rfl)
  (case c3 => exact rfl)
  (case c4 => exact rfl)))
local macro_rules | `(tactic| walk_at "eval ListComp") => `(tactic| (k_here; refine halt ?_))
local macro_rules | `(tactic| walk_at "CompSrcT") => `(tactic| (k_here; refine halt ?_))
local macro_rules | `(tactic| walk_at "CompEnd") => `(tactic| (refine halt ?_))
local macro_rules | `(tactic| walk_at "getMethod type:dict") => `(tactic| (k_here; k_dflt (refine' fk_getm ?kfbF ?kfbN ?kfbX ?kfbE ?_; (case kfbF => k_asm); (case kfbN => k_asm); (case kfbX => k_asm); (case kfbE => k_is); k_whole; intro x' h' tk' F' N' l1; (try k_lt l1); (try k_sweep))))
local macro_rules | `(tactic| walk_at "mine apart") => `(tactic| (simp only [Apart, List.forall_mem_cons, List.not_mem_nil, false_implies, implies_true, and_true]; (try dsimp only); with_reducible omega))
local macro_rules | `(tactic| walk_at "call type:list") => `(tactic| (k_here; refine halt ?_))

set_option maxHeartbeats 8000000 in
theorem same_does {w : World} {hp rp : Addr} {vs us : List Value} {hs rs : List Int} {n n₂ : Nat} (hI : IntsAre vs hs) (hJ : IntsAre us rs) (h3 : hs.length < 900) (h4 : rs.length < 900) (hne : @Ne Nat hp rp) (hset : ∀ x, x ∈ hs ↔ x ∈ rs) :
    DoesF w 109 [.ref hp, .ref rp] [(hp, listOf vs.toArray n), (rp, listOf us.toArray n₂)] (fun v new => v = .bool true ∧ new = [(hp, listOf vs.toArray n), (rp, listOf us.toArray n₂)]) 10 1 := by
  w_top off
  unfold DoesF
  k_fill
  intro mg mb mean dp un gd g outer frs s Q E X T st hsz hdp hun Fs hlen N hfp ret
  obtain ⟨e₀, L₀, o₀, rfl, rfl⟩ := frs_one Fs hlen
  simp only [List.cons_append, List.nil_append] at N
  simp only [Apart, List.forall_mem_cons, List.not_mem_nil, false_implies, implies_true, and_true] at hfp
  walk_at "mine enter"
  clear st hsz N
  intro L' h' F' N' l1
  (try k_lt l1)
  (try dsimp only); (try k_fold)
  have SU := TI.SameUp.refl [(L₀, o₀)]
  k_with_none
  have hdl : (dd rs).length ≤ rs.length := dd_len rs
  have c1 : cmpL hs rs = true := cmpL_true hset
  have c2 : cmpL rs hs = true := cmpL_true (fun x => (hset x).symm)
  have c3 : cmpL hs (dd rs) = true := cmpL_true (fun x => (hset x).trans (mem_dd rs x).symm)
  have c4 : cmpL (dd rs) hs = true := cmpL_true (fun x => (mem_dd rs x).trans (hset x).symm)
  k_steps
  refine Halt.go ?_
  (rename Fr _ _ _ _ => cF); (rename News _ _ _ _ => cN)
  refine does_use (firsts_does hJ h4) cF X cN T rfl (by walk_at "mine bound") (by walk_at "mine bound") (by walk_at "mine pre") (by walk_at "mine rest") ?_
  clear cF cN
  intro v h' tk new hpost F' N' hap
  obtain ⟨op, os, n₃, rfl, rfl, hop, hO⟩ := hpost
  (try simp only [List.cons_append, List.nil_append] at N'); (try dsimp only)
  (try simp only [Apart, List.forall_mem_cons, List.not_mem_nil, false_implies, implies_true, and_true] at hap)
  have hop2 := hap.1; clear hap
  k_steps
  refine Halt.go ?_
  (rename Fr _ _ _ _ => cF); (rename News _ _ _ _ => cN)
  refine doesF_use (frs := [(L₀, o₀)]) (compare_does hI hJ h3 h4 hne) cF X cN T rfl rfl (by show PySem.ScopeKind.function ≠ PySem.ScopeKind.module; decide) (by walk_at "mine bound") (by walk_at "mine bound") Fs (by walk_at "mine pre") rfl (by walk_at "mine pre") (by walk_at "mine apart") (by walk_at "mine rest") ?_
  clear cF cN
  intro v h' tk new frs' hpost F' su Fs' N' hap hap'
  obtain ⟨hv, rfl⟩ := hpost
  obtain ⟨ob₁, rfl⟩ := same_ex su
  have SU' := SU.trans su
  clear su Fs SU; have Fs := Fs'; have SU := SU'; clear Fs' SU'
  (try simp only [List.cons_append, List.nil_append] at N'); (try dsimp only)
  clear hap hap'
  rw [c1] at hv; subst hv
  k_steps
  refine Halt.go ?_
  (rename Fr _ _ _ _ => cF); (rename News _ _ _ _ => cN)
  refine doesF_use (frs := [(L₀, ob₁)]) (compare_does hJ hI h4 h3 (Ne.symm hne)) cF X cN T rfl rfl (by show PySem.ScopeKind.function ≠ PySem.ScopeKind.module; decide) (by walk_at "mine bound") (by walk_at "mine bound") Fs (by walk_at "mine pre") rfl (by walk_at "mine pre") (by walk_at "mine apart") (by walk_at "mine rest") ?_
  clear cF cN
  intro v h' tk new frs' hpost F' su Fs' N' hap hap'
  obtain ⟨hv, rfl⟩ := hpost
  obtain ⟨ob₂, rfl⟩ := same_ex su
  have SU' := SU.trans su
  clear su Fs SU; have Fs := Fs'; have SU := SU'; clear Fs' SU'
  (try simp only [List.cons_append, List.nil_append] at N'); (try dsimp only)
  clear hap hap'
  rw [c2] at hv; subst hv
  k_steps
  refine Halt.go ?_
  (rename Fr _ _ _ _ => cF); (rename News _ _ _ _ => cN)
  refine doesF_use (frs := [(L₀, ob₂)]) (compare_does hI hO h3 (Nat.lt_of_le_of_lt (dd_len rs) h4) (Ne.symm hop2.1)) cF X cN T rfl rfl (by show PySem.ScopeKind.function ≠ PySem.ScopeKind.module; decide) (by walk_at "mine bound") (by walk_at "mine bound") Fs (by walk_at "mine pre") rfl (by walk_at "mine pre") (by walk_at "mine apart") (by walk_at "mine rest") ?_
  clear cF cN
  intro v h' tk new frs' hpost F' su Fs' N' hap hap'
  obtain ⟨hv, rfl⟩ := hpost
  obtain ⟨ob₃, rfl⟩ := same_ex su
  have SU' := SU.trans su
  clear su Fs SU; have Fs := Fs'; have SU := SU'; clear Fs' SU'
  (try simp only [List.cons_append, List.nil_append] at N'); (try dsimp only)
  clear hap hap'
  rw [c3] at hv; subst hv
  k_steps
  refine Halt.go ?_
  (rename Fr _ _ _ _ => cF); (rename News _ _ _ _ => cN)
  refine doesF_use (frs := [(L₀, ob₃)]) (compare_does hO hI (Nat.lt_of_le_of_lt (dd_len rs) h4) h3 hop2.1) cF X cN T rfl rfl (by show PySem.ScopeKind.function ≠ PySem.ScopeKind.module; decide) (by walk_at "mine bound") (by walk_at "mine bound") Fs (by walk_at "mine pre") rfl (by walk_at "mine pre") (by walk_at "mine apart") (by walk_at "mine rest") ?_
  clear cF cN
  intro v h' tk new frs' hpost F' su Fs' N' hap hap'
  obtain ⟨hv, rfl⟩ := hpost
  obtain ⟨ob₄, rfl⟩ := same_ex su
  have SU' := SU.trans su
  clear su Fs SU; have Fs := Fs'; have SU := SU'; clear Fs' SU'
  (try simp only [List.cons_append, List.nil_append] at N'); (try dsimp only)
  clear hap hap'
  rw [c4] at hv; subst hv
  k_steps
  ·
    refine Halt.go ?_
    (rename Fr _ _ _ _ => cF); (rename News _ _ _ _ => cN0)
    have cN := kst_newsOf cN0 (l' := [(hp, listOf vs.toArray n), (rp, listOf us.toArray n₂), (L₀, ob₄)]) (by walk_at "mine pre")
    clear cN0
    repeat ((rename _ < _ ∧ _ => hz); clear hz)
    refine does_use (dedupD_does hI h3) cF X cN T rfl (by walk_at "mine bound") (by walk_at "mine bound") (by walk_at "mine pre") (by walk_at "mine rest") ?_
    clear cF cN
    intro v h' tk new hpost F' N' hap
    obtain ⟨dp', od, kvs, rfl, rfl, hdne, hlo, hod, hkv⟩ := hpost
    (try simp only [List.cons_append, List.nil_append] at N'); (try dsimp only)
    clear hap
    k_steps
    refine Halt.go ?_
    (rename Fr _ _ _ _ => cF); (rename News _ _ _ _ => cN)
    have hkl : kvs.length < 900 := by have e1 := congrArg List.length hkv; rw [List.length_map] at e1; have e2 := dd_len hs; omega
    refine list_dict rfl cF cN (by k_mem) hlo hod hkl ?_
    clear cF cN
    intro lB cB h' tk vB F' N' lB1 hB
    rw [hkv] at hB
    k_lt lB1
    (try dsimp only)
    k_steps
    refine Halt.go ?_
    (rename Fr _ _ _ _ => cF); (rename News _ _ _ _ => cN)
    refine does_use (firsts_does hI h3) cF X cN T rfl (by walk_at "mine bound") (by walk_at "mine bound") (by walk_at "mine pre") (by walk_at "mine rest") ?_
    clear cF cN
    intro v h' tk new hpost F' N' hap
    obtain ⟨fp, fs, nf, rfl, rfl, hfne, hFs⟩ := hpost
    (try simp only [List.cons_append, List.nil_append] at N'); (try dsimp only)
    clear hap
    k_steps
    refine Halt.go ?_
    (rename Fr _ _ _ _ => cF); (rename News _ _ _ _ => cN)
    refine does_use (dedup_does hI h3) cF X cN T rfl (by walk_at "mine bound") (by walk_at "mine bound") (by walk_at "mine pre") (by walk_at "mine rest") ?_
    clear cF cN
    intro v h' tk new hpost F' N' hap
    obtain ⟨up, uu, nu, rfl, rfl, hune, hUu⟩ := hpost
    (try simp only [List.cons_append, List.nil_append] at N'); (try dsimp only)
    clear hap
    k_steps
    refine Halt.go ?_
    (rename Fr _ _ _ _ => cF); (rename News _ _ _ _ => cN)
    refine does_use (firsts_does hI h3) cF X cN T rfl (by walk_at "mine bound") (by walk_at "mine bound") (by walk_at "mine pre") (by walk_at "mine rest") ?_
    clear cF cN
    intro v h' tk new hpost F' N' hap
    obtain ⟨fp₂, fs₂, nf₂, rfl, rfl, hfne₂, hFs₂⟩ := hpost
    (try simp only [List.cons_append, List.nil_append] at N'); (try dsimp only)
    clear hap
    k_steps
    refine ret _ _ _ [(hp, listOf vs.toArray n), (rp, listOf us.toArray n₂)] [(L₀, ob₄)] F'.keep SU (fun p hp => beside_of N' p ?_) ?_ ⟨rfl, rfl⟩
    · simp only [List.cons_append, List.nil_append, List.mem_cons, List.not_mem_nil, or_false] at hp ⊢
      rcases hp with rfl | rfl | rfl <;> simp only [true_or, or_true]
    · simp only [Apart, List.forall_mem_cons, List.not_mem_nil, false_implies, implies_true, and_true]
      exact hfp
  (rename decide (dd rs = []) = false => hnn)
  have hnn' : dd rs ≠ [] := of_decide_eq_false hnn
  have c5 : cmpL hs ((dd rs).drop 1) = false := cmpL_drop_left hset hnn'
  have c6 : cmpL ((dd rs).drop 1) hs = false := cmpL_drop_right hset hnn'
  (rename IntsAre _ (List.drop _ _) => iD); (rename List.length (List.drop _ _) ≤ _ => hd1)
  refine Halt.go ?_
  (rename Fr _ _ _ _ => cF); (rename News _ _ _ _ => cN)
  refine doesF_use (frs := [(L₀, ob₄)]) (compare_does hI iD h3 (by omega) (by omega)) cF X cN T rfl rfl (by show PySem.ScopeKind.function ≠ PySem.ScopeKind.module; decide) (by walk_at "mine bound") (by walk_at "mine bound") Fs (by walk_at "mine pre") rfl (by walk_at "mine pre") (by walk_at "mine apart") (by walk_at "mine rest") ?_
  clear cF cN
  intro v h' tk new frs' hpost F' su Fs' N' hap hap'
  obtain ⟨hv, rfl⟩ := hpost
  obtain ⟨ob₅, rfl⟩ := same_ex su
  have SU' := SU.trans su
  clear su Fs SU; have Fs := Fs'; have SU := SU'; clear Fs' SU'
  (try simp only [List.cons_append, List.nil_append] at N'); (try dsimp only)
  clear hap hap'
  rw [c5] at hv; subst hv
  k_steps
  (rename IntsAre _ (List.drop _ _) => iD2); (rename List.length (List.drop _ _) ≤ _ => hd2)
  refine Halt.go ?_
  (rename Fr _ _ _ _ => cF); (rename News _ _ _ _ => cN)
  refine doesF_use (frs := [(L₀, ob₅)]) (compare_does iD2 hI (by omega) h3 (by omega)) cF X cN T rfl rfl (by show PySem.ScopeKind.function ≠ PySem.ScopeKind.module; decide) (by walk_at "mine bound") (by walk_at "mine bound") Fs (by walk_at "mine pre") rfl (by walk_at "mine pre") (by walk_at "mine apart") (by walk_at "mine rest") ?_
  clear cF cN
  intro v h' tk new frs' hpost F' su Fs' N' hap hap'
  obtain ⟨hv, rfl⟩ := hpost
  obtain ⟨ob₆, rfl⟩ := same_ex su
  have SU' := SU.trans su
  clear su Fs SU; have Fs := Fs'; have SU := SU'; clear Fs' SU'
  (try simp only [List.cons_append, List.nil_append] at N'); (try dsimp only)
  clear hap hap'
  rw [c6] at hv; subst hv
  k_steps
  refine Halt.go ?_
  (rename Fr _ _ _ _ => cF); (rename News _ _ _ _ => cN0)
  have cN := kst_newsOf cN0 (l' := [(hp, listOf vs.toArray n), (rp, listOf us.toArray n₂), (L₀, ob₆)]) (by walk_at "mine pre")
  clear cN0
  repeat ((rename _ < _ ∧ _ => hz); clear hz)
  refine does_use (dedupD_does hI h3) cF X cN T rfl (by walk_at "mine bound") (by walk_at "mine bound") (by walk_at "mine pre") (by walk_at "mine rest") ?_
  clear cF cN
  intro v h' tk new hpost F' N' hap
  obtain ⟨dp', od, kvs, rfl, rfl, hdne, hlo, hod, hkv⟩ := hpost
  (try simp only [List.cons_append, List.nil_append] at N'); (try dsimp only)
  clear hap
  k_steps
  refine Halt.go ?_
  (rename Fr _ _ _ _ => cF); (rename News _ _ _ _ => cN)
  have hkl : kvs.length < 900 := by have e1 := congrArg List.length hkv; rw [List.length_map] at e1; have e2 := dd_len hs; omega
  refine list_dict rfl cF cN (by k_mem) hlo hod hkl ?_
  clear cF cN
  intro lB cB h' tk vB F' N' lB1 hB
  rw [hkv] at hB
  k_lt lB1
  (try dsimp only)
  k_steps
  refine Halt.go ?_
  (rename Fr _ _ _ _ => cF); (rename News _ _ _ _ => cN)
  refine does_use (firsts_does hI h3) cF X cN T rfl (by walk_at "mine bound") (by walk_at "mine bound") (by walk_at "mine pre") (by walk_at "mine rest") ?_
  clear cF cN
  intro v h' tk new hpost F' N' hap
  obtain ⟨fp, fs, nf, rfl, rfl, hfne, hFs⟩ := hpost
  (try simp only [List.cons_append, List.nil_append] at N'); (try dsimp only)
  clear hap
  k_steps
  refine Halt.go ?_
  (rename Fr _ _ _ _ => cF); (rename News _ _ _ _ => cN)
  refine does_use (dedup_does hI h3) cF X cN T rfl (by walk_at "mine bound") (by walk_at "mine bound") (by walk_at "mine pre") (by walk_at "mine rest") ?_
  clear cF cN
  intro v h' tk new hpost F' N' hap
  obtain ⟨up, uu, nu, rfl, rfl, hune, hUu⟩ := hpost
  (try simp only [List.cons_append, List.nil_append] at N'); (try dsimp only)
  clear hap
  k_steps
  refine Halt.go ?_
  (rename Fr _ _ _ _ => cF); (rename News _ _ _ _ => cN)
  refine does_use (firsts_does hI h3) cF X cN T rfl (by walk_at "mine bound") (by walk_at "mine bound") (by walk_at "mine pre") (by walk_at "mine rest") ?_
  clear cF cN
  intro v h' tk new hpost F' N' hap
  obtain ⟨fp₂, fs₂, nf₂, rfl, rfl, hfne₂, hFs₂⟩ := hpost
  (try simp only [List.cons_append, List.nil_append] at N'); (try dsimp only)
  clear hap
  k_steps
  refine ret _ _ _ [(hp, listOf vs.toArray n), (rp, listOf us.toArray n₂)] [(L₀, ob₆)] F'.keep SU (fun p hp => beside_of N' p ?_) ?_ ⟨rfl, rfl⟩
  · simp only [List.cons_append, List.nil_append, List.mem_cons, List.not_mem_nil, or_false] at hp ⊢
    rcases hp with rfl | rfl | rfl <;> simp only [true_or, or_true]
  · simp only [Apart, List.forall_mem_cons, List.not_mem_nil, false_implies, implies_true, and_true]
    exact hfp
end Mine
end

section
open PySem PySem.W PyProof.Rows PySem.Calls
set_option Elab.async false
set_option maxRecDepth 100000
set_option linter.unusedVariables false
namespace Mine

/-- what stands behind a turn of the law's loop -/
def TurnEnd (h₀ : Heap) (L I l ha ca : Addr) (oI ol oc : Obj) (k : Nat) (s₁ s₂ : Shared) : Prop :=
  ∃ h' tk m' news' hv hn hs ra rv rn rs, s₂ = { s₁ with heap := h', toks := tk } ∧ Fr h₀ L h' m' ∧ News h₀ L h' news' ∧
    (∀ p ∈ [(I, oI), (l, ol), (ha, listOf (List.toArray hv) hn), (ra, listOf (List.toArray rv) rn), (ca, oc)], p ∈ news') ∧ (@Ne Nat ra I ∧ @Ne Nat ra l ∧ @Ne Nat ra ha ∧ @Ne Nat ra ca) ∧
    IntsAre hv hs ∧ IntsAre rv rs ∧ Good hs rs ∧ rs.length ≤ k ∧ m' (Str.ofString "row") = some (.ref ra)
def TurnPost (h₀ : Heap) (L I l ha ca : Addr) (oI ol oc : Obj) (k : Nat) (s₁ : Shared) (Q : Flow → Shared → Prop) (f : Flow) (s₂ : Shared) : Prop :=
  match f with
  | .ret v => Q (.ret v) s₂
  | .brk => Q .next s₂
  | _ => TurnEnd h₀ L I l ha ca oI ol oc k s₁ s₂

/-- what stands between two turns -/
def LawJ (I l ha ca : Addr) (ol oc : Obj) (k : Nat) (m : Str → Option Value) (nx : List (Addr × Obj)) : Prop :=
  ∃ hv hn hs ra rv rn rs, nx = [(l, ol), (ha, listOf (List.toArray hv) hn), (ra, listOf (List.toArray rv) rn), (ca, oc)] ∧ (@Ne Nat ra I ∧ @Ne Nat ra l ∧ @Ne Nat ra ha ∧ @Ne Nat ra ca) ∧
    IntsAre hv hs ∧ IntsAre rv rs ∧ Good hs rs ∧ rs.length ≤ k ∧ m (Str.ofString "row") = some (.ref ra)

theorem law_iter {prog : Program} {w : World} {A : Around} {E : Value → Shared → Prop} {s : Shared} {env : Env} {h₀ : Heap} {body : List Stmt} {Q : Flow → Shared → Prop}
    {l ha ca ra₀ : Addr} {oc : Obj} {vs : List Value} {ns : List Int} {nn : Nat} {m₀ : Str → Option Value} {news : List (Addr × Obj)}
    (hh : A.handled = none) (hi : IntsAre vs ns) (F : Fr h₀ env.locals s.heap m₀) (N : News h₀ env.locals s.heap news) (hcell : oc.data = .cell (some (.ref ha))) (hrow : m₀ (Str.ofString "row") = some (.ref ra₀))
    (h1 : (l, listOf vs.toArray nn) ∈ news) (h2 : (ha, listOf #[] 0) ∈ news) (h3 : (ra₀, listOf #[] 0) ∈ news) (h4 : (ca, oc) ∈ news)
    (a1 : @Ne Nat ha l) (a2 : @Ne Nat ca l) (a3 : @Ne Nat ha ca) (a4 : @Ne Nat ra₀ l) (a5 : @Ne Nat ra₀ ha) (a6 : @Ne Nat ra₀ ca)
    (turn : ∀ (i : Nat) (n : Int) (t : Tok) (u : Str → Option Value) (h : Heap) (tk : Nat) (I : Addr) (oI : Obj) hv hn hs ra rv rn rs, n ∈ ns → i < ns.length → (@Ne Nat ha l ∧ @Ne Nat ca l ∧ @Ne Nat ha ca) → (@Ne Nat l I ∧ @Ne Nat ha I ∧ @Ne Nat ca I) → (@Ne Nat ra I ∧ @Ne Nat ra l ∧ @Ne Nat ra ha ∧ @Ne Nat ra ca) → IntsAre hv hs → IntsAre rv rs → Good hs rs → rs.length ≤ i →
      Fr h₀ env.locals h (fun y => if y = Str.ofString "x" then some (.int n t) else if y = Str.ofString "row" then some (.ref ra) else u y) →
      News h₀ env.locals h [(ra, listOf (List.toArray rv) rn), (ha, listOf (List.toArray hv) hn), (ca, oc), (l, listOf vs.toArray nn), (I, oI)] →
      wpAny (model prog w) A (execs body env) (TurnPost h₀ env.locals I l ha ca oI (listOf vs.toArray nn) oc (i + 1) { s with heap := h, toks := tk } Q) E { s with heap := h, toks := tk })
    (done : ∀ (u : Str → Option Value) (h : Heap) (tk : Nat) hv hn hs ra rv rn rs, (@Ne Nat ra l ∧ @Ne Nat ra ha ∧ @Ne Nat ra ca) → IntsAre hv hs → IntsAre rv rs → Good hs rs → rs.length ≤ ns.length →
      Fr h₀ env.locals h (fun y => if y = Str.ofString "row" then some (.ref ra) else u y) →
      News h₀ env.locals h [(ra, listOf (List.toArray rv) rn), (ha, listOf (List.toArray hv) hn), (ca, oc)] →
      Q .next { s with heap := h, toks := tk }) :
    wpAny (model prog w) A (pyIter (.ref l)) (fun it s₂ => LoopAtV prog w A h₀ env (Str.ofString "x") body Q E it s₂) E s := by
  have hol : s.heap.get? l = some (listOf vs.toArray nn) := (N _ h1).1
  have hls : s.heap.IsList l vs.toArray := ⟨_, hol, rfl, nn, rfl⟩
  have lt : ∀ p ∈ news, @Ne Nat p.1 s.heap.objs.size := fun p hp => Nat.ne_of_lt (Heap.lt_size (N p hp).1)
  have hne : l ≠ s.heap.objs.size := lt _ h1
  refine wpAny_pyIter_list hls ?_
  have W := Walks.list (prog := prog) (w := w) hh s.heap.objs.size l hne vs.toArray
  have hlen : vs.toArray.size = ns.length := by simp [hi.length]
  rw [hlen] at W
  have sub : ∀ p ∈ [(l, listOf vs.toArray nn), (ha, listOf #[] 0), (ra₀, listOf #[] 0), (ca, oc)], p ∈ news := by
    intro p hp
    simp only [List.mem_cons, List.not_mem_nil, or_false] at hp
    rcases hp with rfl | rfl | rfl | rfl <;> assumption
  refine ⟨_, _, _, ns.length, _, _, m₀, [(l, listOf vs.toArray nn), (ha, listOf #[] 0), (ra₀, listOf #[] 0), (ca, oc)], LawJ s.heap.objs.size l ha ca (listOf vs.toArray nn) oc, rfl, W, ?_, ?_, ?_, ⟨⟨_, Heap.get?_push_size _ rfl, rfl, rfl⟩, hls.at fun o e => Heap.get?_push_of_some _ e⟩, F.push _, (fun p hp => ⟨Heap.get?_push_of_some _ (N p (sub p hp)).1, (N p (sub p hp)).2⟩), ⟨[], 0, [], ra₀, [], 0, [], rfl, ⟨lt _ h3, a4, a5, a6⟩, .nil, .nil, .nil, Nat.le_refl _, hrow⟩, ?_, ?_⟩
  · intro hm
    rcases List.mem_cons.mp hm with e | hm
    · exact absurd F.ns.lt (e ▸ Nat.lt_irrefl _)
    · exact (N _ h1).2.1 ((List.mem_singleton.mp hm).symm)
  · intro b hb
    rw [List.mem_singleton.mp hb]
    exact next_is_new F
  · intro p hp hI
    exact lt p (sub p hp) (List.mem_singleton.mp hI)
  · rintro i v m₁ news₁ s₁ own ⟨hh', tk', rfl⟩ hin hP ⟨hv, hn, hs, ra, rv, rn, rs, rfl, hne', iH, iR, g, hk, hm⟩ hoff hown hget hfp hst F₁ N₁
    have hI0 : h₀.get? s.heap.objs.size = none := next_is_new F
    obtain ⟨⟨oI, hoI, _⟩, _⟩ := id hst
    have hIown : (s.heap.objs.size, oI) ∈ own := hfp _ (List.mem_cons.mpr (.inl rfl)) hI0 _ hoI
    have hlt' : i < ns.length := hin
    obtain ⟨t, hx⟩ := hi.get i ns[i] (by simp [hlt'])
    have hv' : v = .int ns[i] t := by
      have hP' : vs[i]? = some v := by simpa using hP
      rw [hx] at hP'; exact (Option.some.inj hP').symm
    subst hv'
    have hlo : hh'.get? l = some (listOf vs.toArray nn) := (N₁ _ (List.mem_append.mpr (.inr (.head _)))).1
    have ownIs : ∀ p ∈ own, p = (s.heap.objs.size, oI) ∨ p = (l, listOf vs.toArray nn) := by
      intro p hp
      have e := hget p hp
      rcases List.mem_cons.mp (hown p hp) with h2 | h2
      · refine .inl (Prod.ext h2 ?_)
        rw [h2, hoI] at e; exact (Option.some.inj e).symm
      · have h2' := List.mem_singleton.mp h2
        refine .inr (Prod.ext h2' ?_)
        rw [h2', hlo] at e; exact (Option.some.inj e).symm
    have N₂ : News h₀ env.locals hh' [(ra, listOf (List.toArray rv) rn), (ha, listOf (List.toArray hv) hn), (ca, oc), (l, listOf vs.toArray nn), (s.heap.objs.size, oI)] := by
      intro p hp
      simp only [List.mem_cons, List.not_mem_nil, or_false] at hp
      refine N₁ p (List.mem_append.mpr ?_)
      rcases hp with rfl | rfl | rfl | rfl | rfl
      · exact .inr (by simp)
      · exact .inr (by simp)
      · exact .inr (by simp)
      · exact .inr (by simp)
      · exact .inl hIown
    have F₂ : Fr h₀ env.locals hh' (fun y => if y = Str.ofString "x" then some (.int ns[i] t) else if y = Str.ofString "row" then some (.ref ra) else m₁ y) := Fr.known F₁ hm
    refine wpAny_mono (turn i ns[i] t m₁ hh' tk' s.heap.objs.size oI hv hn hs ra rv rn rs (List.getElem_mem hlt') hlt' ⟨a1, a2, a3⟩ ⟨lt _ h1, lt _ h2, lt _ h4⟩ hne' iH iR g hk F₂ N₂) (fun f s₂ p => ?_) fun _ _ e => e
    have fin : TurnEnd h₀ env.locals s.heap.objs.size l ha ca oI (listOf vs.toArray nn) oc (i + 1) { s with heap := hh', toks := tk' } s₂ →
        LoopStepU h₀ env.locals [s.heap.objs.size] own (LawJ s.heap.objs.size l ha ca (listOf vs.toArray nn) oc (i + 1)) { s with heap := hh', toks := tk' } .next s₂ := by
      rintro ⟨h', tk, m', news', hv', hn', hs', ra', rv', rn', rs', e, F', N', hin', hne'', iH', iR', g', hk', hm'⟩
      refine ⟨rfl, h', tk, m', [(l, listOf vs.toArray nn), (ha, listOf (List.toArray hv') hn'), (ra', listOf (List.toArray rv') rn'), (ca, oc)], e, F', fun p hp => ?_, fun p hp hq => ?_, ⟨hv', hn', hs', ra', rv', rn', rs', rfl, hne'', iH', iR', g', hk', hm'⟩⟩
      · refine N' p ?_
        rcases List.mem_append.mp hp with h | h
        · rcases ownIs p h with rfl | rfl
          · exact hin' _ (.head _)
          · exact hin' _ (.tail _ (.head _))
        · exact hin' _ (.tail _ h)
      · have hq' := List.mem_singleton.mp hq
        simp only [List.mem_cons, List.not_mem_nil, or_false] at hp
        rcases hp with rfl | rfl | rfl | rfl
        · exact lt _ h1 hq'
        · exact lt _ h2 hq'
        · exact hne''.1 hq'
        · exact lt _ h4 hq'
    cases f with
    | ret v => exact .ret p
    | brk => exact .brk p
    | next => exact .next (fin p)
    | cont => exact .cont (fin p)
  · rintro h' tk m' news' F' N' _ ⟨hv, hn, hs, ra, rv, rn, rs, rfl, hne', iH, iR, g, hk, hm⟩
    refine done m' h' tk hv hn hs ra rv rn rs hne'.2 iH iR g hk (Fr.known0 F' hm) fun p hp => N' p ?_
    simp only [List.mem_cons, List.not_mem_nil, or_false] at hp ⊢
    rcases hp with h | h | h
    · exact .inr (.inr (.inl h))
    · exact .inr (.inl h)
    · exact .inr (.inr (.inr h))
end Mine
end

section
open PySem PySem.W PyProof.Rows PySem.Calls
set_option Elab.async false
set_option maxRecDepth 100000
set_option linter.unusedVariables false
namespace Mine

theorem Good.pop {hs rs : List Int} (g : Good hs rs) (h : rs ≠ []) : hs ≠ [] ∧ hs.getD 0 0 = rs.getD 0 0 ∧ Good (popL hs) (rs.drop 1) := by
  obtain ⟨a, b, _⟩ := g.deed h 2 0
  have c : (2 : Int).fmod 4 = 2 := by decide
  unfold deedV dueL at a
  unfold deedL dueL at b
  rw [if_pos c, if_pos c] at a b
  exact ⟨fun e => h (by have := g.len; rw [e] at this; exact List.length_eq_zero_iff.mp this.symm), a, b⟩

/-- the comprehension that pops the heap empty -/
theorem pops_rest {prog : Program} {w : World} {A : Around} {h₀ : Heap} {L : Addr} {m : Str → Option Value} {env : Env} {elt : Expr} {x : Str} {scope : Scope} {cl : List (Str × Addr)} {s : Shared} {P : Nat → Value → Prop} {Fin : List Value → List (Addr × Obj) → Prop}
    {ra ha ca : Addr} {oc : Obj} {its : Array Value} {rn : Nat}
    (turn : ∀ v I oI C oC D m₂ ys h tk (E' : Value → Shared → Prop) hv hn hs, hs ≠ [] → hs.length < 900 → IntsAre hv hs → LCg.NsObj oC m₂ → m₂ x = some v → Fr h₀ L h m →
      News h₀ L h [(I, oI), (C, oC), (D, LCg.lst ys), (ra, listOf its rn), (ha, listOf (List.toArray hv) hn), (ca, oc)] → LCg.Off3 I C D [(ra, listOf its rn), (ha, listOf (List.toArray hv) hn), (ca, oc)] → ((@Ne Nat I C) ∧ (@Ne Nat I D) ∧ (@Ne Nat C D)) →
      wpAny (model prog w) A (eval elt (compEnvC scope cl C env)) (LCg.CompEnd h₀ L m { s with heap := h, toks := tk } I oI C oC D (LCg.lst ys) (LCg.SrcAt h₀ ra its) (fun y news' => ∃ hv' hn' t, news' = [(ra, listOf its rn), (ha, listOf (List.toArray hv') hn'), (ca, oc)] ∧ IntsAre hv' (popL hs) ∧ y = .int (hs.getD 0 0) t)) E' { s with heap := h, toks := tk })
    {all : List Int} (fin : ∀ ys hv hn, IntsAre ys all → IntsAre hv [] → Fin ys [(ra, listOf its rn), (ha, listOf (List.toArray hv) hn), (ca, oc)]) :
    ∀ (j i : Nat) (ys : List Value) hv hn hs rs as, rs.length = j → rs.length < 900 → as ++ rs = all → IntsAre ys as → IntsAre hv hs → Good hs rs →
      LCg.CompRest prog w A h₀ L m env elt x scope cl s (LCg.SrcAt h₀ ra its) P Fin j i ys [(ra, listOf its rn), (ha, listOf (List.toArray hv) hn), (ca, oc)] := by
  intro j
  induction j with
  | zero =>
    intro i ys hv hn hs rs as hj hl e hy hi g
    have er : rs = [] := List.length_eq_zero_iff.mp hj
    subst er
    have eh : hs = [] := List.length_eq_zero_iff.mp g.len
    subst eh
    rw [List.append_nil] at e
    subst e
    exact LCg.CompRest.zero (fin ys hv hn hy hi)
  | succ j ih =>
    intro i ys hv hn hs rs as hj hl e hy hi g
    have hr : rs ≠ [] := fun q => by rw [q] at hj; cases hj
    obtain ⟨hh, hv0, g'⟩ := g.pop hr
    refine LCg.CompRest.succ ?_
    intro v I oI C oC D m₂ h tk E' _ hC hx F N off ne
    refine wpAny_mono (turn v I oI C oC D m₂ ys h tk E' hv hn hs hh (by rw [g.len]; exact hl) hi hC hx F N off ne) (fun y s₂ hq => ?_) fun _ _ e => e
    obtain ⟨h', tk', nw, e', F', N', off', hS, hv', hn', t, rfl, hi', rfl⟩ := hq
    refine ⟨h', tk', _, e', F', N', off', hS, ?_⟩
    have hd : (rs.drop 1).length = j := by rw [List.length_drop, hj]; rfl
    refine ih (i + 1) _ hv' hn' (popL hs) (rs.drop 1) (as ++ [hs.getD 0 0]) hd (by omega) ?_ (IntsAre.append hy (.cons _ t .nil)) hi' g'
    rw [hv0, List.append_assoc, List.singleton_append, head_drop hr]
    exact e
end Mine
end

section
open PySem PySem.W PyProof.Rows PySem.Calls
set_option Elab.async false
set_option maxRecDepth 100000
set_option linter.unusedVariables false
namespace Mine
local macro_rules | `(tactic| walk_at "binaryOp RShift int int") => `(tactic| (refine rshift_half ?hq ?_; (case hq => omega); intro _ _))
local macro_rules | `(tactic| k_room) => `(tactic| (simp only [depth_deeper, depth_in1, recursionLimit] at *; omega))
local macro_rules | `(tactic| walk_at "exec While Compare cons nil") => `(tactic| k_extra "mine while")
local macro_rules | `(tactic| walk_at "KswEnd") => `(tactic| k_extra "mine end")
local macro_rules | `(tactic| walk_at "InvEndN") => `(tactic| (refine halt ?_))
local macro_rules | `(tactic| walk_at "mine enter") => `(tactic| (
  refine' enter ?k1 (Top.nolimit ?k2) ?k3 ?k4 ?k5 ?k6 ?k7 ?k8 ?k9 ?kB ?_ ?c2 ?c3 ?c4 ?c5
  (case k1 => assumption)
  (case k2 => assumption)
  (case k3 => assumption)
  (case k4 => assumption)
  (case k5 => assumption)
  (case k6 => k_is)
  (case k7 => k_is)
  (case k8 => ((show _ < 1000); dsimp only; omega))
  (case k9 => exact BindsTo.of_eq rfl)
  (case c5 => decide)
  (case kB => exact locs rfl)
  (case c2 => exact rfl)
  (case c3 => exact rfl)
  (case c4 => exact rfl)))
local macro_rules | `(tactic| walk_at "mine rest") => `(tactic| ((try dsimp only [List.map, List.cons_append, List.nil_append]); first | exact Rest.nil | (refine' Rest.skip ?a ?b; (case a => k_mem); (case b => walk_at "mine rest")) | (refine' Rest.keep ?a ?b; (case a => with_reducible k_all); (case b => walk_at "mine rest"))))
local macro_rules | `(tactic| walk_at "mine pre") => `(tactic| (repeat (first | exact List.forall_mem_nil _ | refine List.forall_mem_cons.mpr ⟨by k_mem, ?_⟩)))
local macro_rules | `(tactic| walk_at "mine bound") => `(tactic| ((try dsimp only [Around.deeper, Around.in1]); with_reducible omega))
local macro_rules | `(tactic| walk_at "call ref") => `(tactic| (k_here; refine halt ?_))
local macro_rules | `(tactic| walk_at "compareOp NotIn int ref") => `(tactic| (k_here; k_dflt (refine' notin_list_ints ?l ?i ?_; (case l => exact News.isList (by k_asm) (by k_mem)); (case i => with_reducible assumption); k_whole)))
local macro_rules | `(tactic| walk_at "subscriptTail Name Slice ref ref") => `(tactic| (k_here; (with_reducible show wpAny _ _ (subscriptTail _ (PySem.Expr.Slice _ _ none _) (Value.ref _) (Value.ref _)) _ _ _); (try dsimp only); k_dflt (refine' slice_flat ?F ?N ?l ?p ?q ?i ?m ?z ?_ ?s ?t; (case F => k_asm); (case N => k_asm); (case l => k_mem); (case p => kmk_part); (case q => kmk_part); (case i => with_reducible assumption); (case m => first | exact kmk_from (by with_reducible assumption) (by omega) | exact kmk_upto (by with_reducible assumption) (by omega)); (case z => ((try simp only [List.length_append, List.length_cons, List.length_nil, List.length_take, List.length_drop]); omega)); (case s => with_unfolding_all rfl); (case t => kmk_pure)); intro D' ws' h' F' N' l1 hI' hL'; (try simp only [Int.reduceNeg, Int.neg_neg, Int.reduceToNat] at hI' hL'); (try k_lt l1); (try k_sweep)))
local macro_rules | `(tactic| walk_at "mine enterC") => `(tactic| (
  refine' enterC ?k1 (Top.nolimit ?k2) ?k3 ?k4 ?k5 ?k6 ?k7 ?k8 ?k9 ?kB ?kD ?_ ?c2 ?c3 ?c4
  (case k1 => assumption)
  (case k2 => assumption)
  (case k3 => assumption)
  (case k4 => assumption)
  (case k5 => assumption)
  (case k6 => k_is)
  (case k7 => k_is)
  (case k8 => ((show _ < 1000); dsimp only; omega))
  (case k9 => exact BindsTo.of_eq rfl)
  (case kB => exact rfl)
  (case kD => decide +kernel)
  (case c2 => exact rfl)
  (case c3 => exact rfl)
  (case c4 => exact rfl)))
local macro_rules | `(tactic| walk_at "eval ListComp") => `(tactic| (k_here; refine halt ?_))
local macro_rules | `(tactic| walk_at "CompSrcT") => `(tactic| (k_here; refine halt ?_))
local macro_rules | `(tactic| walk_at "CompEnd") => `(tactic| (refine halt ?_))
local macro_rules | `(tactic| walk_at "getMethod type:dict") => `(tactic| (k_here; k_dflt (refine' fk_getm ?kfbF ?kfbN ?kfbX ?kfbE ?_; (case kfbF => k_asm); (case kfbN => k_asm); (case kfbX => k_asm); (case kfbE => k_is); k_whole; intro x' h' tk' F' N' l1; (try k_lt l1); (try k_sweep))))
local macro_rules | `(tactic| walk_at "mine apart") => `(tactic| (simp only [Apart, List.forall_mem_cons, List.not_mem_nil, false_implies, implies_true, and_true]; (try dsimp only); with_reducible omega))
local macro_rules | `(tactic| walk_at "call type:list") => `(tactic| (k_here; refine halt ?_))
local macro_rules | `(tactic| walk_at "pyIter ref") => `(tactic| (k_here; refine halt ?_))
local macro_rules | `(tactic| walk_at "CompSrc") => `(tactic| (k_here; refine halt ?_))
local macro_rules | `(tactic| walk_at "exec For Name BinOp cons nil") => `(tactic| (k_here; (rename Fr _ _ _ _ => lF'); (with_unfolding_all refine' For_invVF lF' ?k1 ?k2 ?_; (case k1 => exact rfl); (case k2 => exact rfl); k_whole)))
local macro_rules | `(tactic| walk_at "TurnPost") => `(tactic| (dsimp only [TurnPost]))
local macro_rules | `(tactic| walk_at "TurnEnd") => `(tactic| (refine halt ?_))

set_option maxHeartbeats 8000000 in
theorem law_holds : PySem.Challenge.rw_mq0166_01.Holds := hd (by
  w_top off
  k_go0
  (all_goals try k_fold)
  k_with_none
  k_steps
  refine Halt.go ?_
  (rename Fr _ _ _ _ => F0); (rename News _ _ _ _ => N0); (rename IntsAre _ (_ ++ _) => hIt); (rename Obj.data _ = Data.cell _ => hcell)
  (rename (hd.heap_39 _).In _ => X); (rename Top _ _ _ _ _ _ => T); (rename ¬ ((63 : Nat) : Int) < _ => hlen)
  have hnl := hIt.length
  rename_i hA _ _ rA _ _ _ _ _ _ _ oC _ _ _ _ _ _ _ _ _ _ _ lA lv _ _
  refine law_iter rfl hIt F0 N0 hcell rfl (by k_mem) (by k_mem) (by k_mem) (by k_mem) (by with_reducible omega) (by with_reducible omega) (by with_reducible omega) (by with_reducible omega) (by with_reducible omega) (by with_reducible omega) ?_ ?_
  · clear F0 N0
    intro i n t u h tk' I oI hv hn hs ra rv rn rs hmem hi a0 aI aR iH iR g hk F' N'
    have hnn : i < 17 := by simp only [List.length_append, List.length_cons, List.length_nil, List.length_take] at hi; omega
    clear hi hnl hIt hmem
    repeat ((rename _ < _ ∧ _ => hz); clear hz)
    repeat ((rename IntsAre _ (List.take _ _) => hz); clear hz)
    repeat ((rename List.length (List.take _ _) = _ => hz); clear hz)
    repeat ((rename List.length (List.take _ _) ≤ _ => hz); clear hz)
    obtain ⟨a1, a2, a3⟩ := a0; obtain ⟨a4, a5, a6⟩ := aI; obtain ⟨a7, a8, a9, a10⟩ := aR
    have hgl := g.len
    k_steps
    · (rename (_ : Int) < 2 => hx2)
      refine Halt.go ?_
      (rename Fr _ _ _ _ => cF); (rename News _ _ _ _ => cN)
      refine does_use (dp := 302) (un := 7) (heappush_does iH (by with_reducible omega)) cF X cN T rfl (by walk_at "mine bound") (by walk_at "mine bound") (by walk_at "mine pre") (by walk_at "mine rest") ?_
      clear cF cN
      intro v h' tk new hpost F' N' hap
      obtain ⟨rfl, hv', hn', rfl, iH'⟩ := hpost
      (try simp only [List.cons_append, List.nil_append] at N'); (try dsimp only)
      (try simp only [Apart, List.forall_mem_cons, List.not_mem_nil, false_implies, implies_true, and_true] at hap)
      k_steps
      refine Halt.go ?_
      (rename Fr _ _ _ _ => cF); (rename News _ _ _ _ => cN)
      refine does_use (dp := 302) (un := 7) (laid_does iR (by with_reducible omega)) cF X cN T rfl (by walk_at "mine bound") (by walk_at "mine bound") (by walk_at "mine pre") (by walk_at "mine rest") ?_
      clear cF cN
      intro v h' tk new hpost F' N' hap
      obtain ⟨rA', rv', rn', rfl, rfl, hne, iR'⟩ := hpost
      (try simp only [List.cons_append, List.nil_append] at N'); (try dsimp only)
      (try simp only [Apart, List.forall_mem_cons, List.not_mem_nil, false_implies, implies_true, and_true] at hap)
      have g' := g.push ((n.fdiv 4).fmod 5)
      have hgl' := g'.len
      have hll' := laid_len rs ((n.fdiv 4).fmod 5)
      have hvl := iH'.length
      have rvl := iR'.length
      k_steps
      rotate_left
      · exact absurd g'.take1 (by assumption)
      refine Halt.go ?_
      (rename Fr _ _ _ _ => cF); (rename News _ _ _ _ => cN0)
      have cN := kst_newsOf cN0 (l' := [(hA, listOf hv'.toArray hn'), (rA', listOf rv'.toArray rn'), (_, oC), (lA, listOf lv.toArray 0), (I, oI)]) (by walk_at "mine pre")
      clear cN0
      repeat ((rename _ < _ ∧ _ => hz); clear hz)
      refine doesF_use (dp := 302) (un := 7) (frs := []) (outer := []) (same_does iH' iR' (by with_reducible omega) (by with_reducible omega) (by with_reducible omega) g'.set) cF X cN T rfl rfl (by show PySem.ScopeKind.function ≠ PySem.ScopeKind.module; decide) (by walk_at "mine bound") (by walk_at "mine bound") True.intro (by walk_at "mine pre") rfl (by walk_at "mine pre") (fun _ _ _ hq => nomatch hq) (by walk_at "mine rest") ?_
      clear cF cN
      intro v h' tk new frs' hpost F' su Fs' N' hap1 hap2
      obtain ⟨rfl, rfl⟩ := hpost
      obtain rfl : frs' = [] := by cases frs' with
        | nil => rfl
        | cons => exact su.elim
      (try simp only [List.cons_append, List.nil_append, List.append_nil] at N'); (try dsimp only)
      clear hap1 hap2 su Fs'
      k_steps
      refine Halt.go ?_
      (rename Fr _ _ _ _ => eF); (rename News _ _ _ _ => eN)
      exact ⟨_, _, _, _, hv', hn', _, rA', rv', rn', _, rfl, eF, eN, by walk_at "mine pre", ⟨by with_reducible omega, by with_reducible omega, by with_reducible omega, by with_reducible omega⟩, iH', iR', g', by with_reducible omega, rfl⟩
    · (rename decide (rs = []) = true => hrs)
      (rename News _ _ _ _ => cN0)
      have cN9 := kst_newsOf cN0 (l' := [(ra, listOf rv.toArray rn), (hA, listOf hv.toArray hn), (_, oC), (lA, listOf lv.toArray 0), (I, oI)]) (by walk_at "mine pre")
      clear cN0
      repeat ((rename _ < _ ∧ _ => hz); clear hz)
      refine Halt.go ?_
      (rename Fr _ _ _ _ => cF); (rename News _ _ _ _ => cN)
      refine does_use (dp := 302) (un := 7) (heappush_does iH (by with_reducible omega)) cF X cN T rfl (by walk_at "mine bound") (by walk_at "mine bound") (by walk_at "mine pre") (by walk_at "mine rest") ?_
      clear cF cN
      intro v h' tk new hpost F' N' hap
      obtain ⟨rfl, hv', hn', rfl, iH'⟩ := hpost
      (try simp only [List.cons_append, List.nil_append] at N'); (try dsimp only)
      (try simp only [Apart, List.forall_mem_cons, List.not_mem_nil, false_implies, implies_true, and_true] at hap)
      k_steps
      refine Halt.go ?_
      (rename Fr _ _ _ _ => cF); (rename News _ _ _ _ => cN)
      refine does_use (dp := 302) (un := 7) (laid_does iR (by with_reducible omega)) cF X cN T rfl (by walk_at "mine bound") (by walk_at "mine bound") (by walk_at "mine pre") (by walk_at "mine rest") ?_
      clear cF cN
      intro v h' tk new hpost F' N' hap
      obtain ⟨rA', rv', rn', rfl, rfl, hne, iR'⟩ := hpost
      (try simp only [List.cons_append, List.nil_append] at N'); (try dsimp only)
      (try simp only [Apart, List.forall_mem_cons, List.not_mem_nil, false_implies, implies_true, and_true] at hap)
      have g' := g.push ((n.fdiv 4).fmod 5)
      have hgl' := g'.len
      have hll' := laid_len rs ((n.fdiv 4).fmod 5)
      have hvl := iH'.length
      have rvl := iR'.length
      k_steps
      rotate_left
      · exact absurd g'.take1 (by assumption)
      refine Halt.go ?_
      (rename Fr _ _ _ _ => cF); (rename News _ _ _ _ => cN0)
      have cN := kst_newsOf cN0 (l' := [(hA, listOf hv'.toArray hn'), (rA', listOf rv'.toArray rn'), (_, oC), (lA, listOf lv.toArray 0), (I, oI)]) (by walk_at "mine pre")
      clear cN0
      repeat ((rename _ < _ ∧ _ => hz); clear hz)
      refine doesF_use (dp := 302) (un := 7) (frs := []) (outer := []) (same_does iH' iR' (by with_reducible omega) (by with_reducible omega) (by with_reducible omega) g'.set) cF X cN T rfl rfl (by show PySem.ScopeKind.function ≠ PySem.ScopeKind.module; decide) (by walk_at "mine bound") (by walk_at "mine bound") True.intro (by walk_at "mine pre") rfl (by walk_at "mine pre") (fun _ _ _ hq => nomatch hq) (by walk_at "mine rest") ?_
      clear cF cN
      intro v h' tk new frs' hpost F' su Fs' N' hap1 hap2
      obtain ⟨rfl, rfl⟩ := hpost
      obtain rfl : frs' = [] := by cases frs' with
        | nil => rfl
        | cons => exact su.elim
      (try simp only [List.cons_append, List.nil_append, List.append_nil] at N'); (try dsimp only)
      clear hap1 hap2 su Fs'
      k_steps
      refine Halt.go ?_
      (rename Fr _ _ _ _ => eF); (rename News _ _ _ _ => eN)
      exact ⟨_, _, _, _, hv', hn', _, rA', rv', rn', _, rfl, eF, eN, by walk_at "mine pre", ⟨by with_reducible omega, by with_reducible omega, by with_reducible omega, by with_reducible omega⟩, iH', iR', g', by with_reducible omega, rfl⟩
    · (rename decide (rs = []) = false => hrs)
      (rename News _ _ _ _ => cN0)
      have cN9 := kst_newsOf cN0 (l' := [(ra, listOf rv.toArray rn), (hA, listOf hv.toArray hn), (_, oC), (lA, listOf lv.toArray 0), (I, oI)]) (by walk_at "mine pre")
      clear cN0
      repeat ((rename _ < _ ∧ _ => hz); clear hz)
      have hrs' : rs ≠ [] := of_decide_eq_false hrs
      clear hrs
      have hhs' : hs ≠ [] := fun e => hrs' (by rw [e] at hgl; exact List.length_eq_zero_iff.mp hgl.symm)
      obtain ⟨gV, g', gN⟩ := g.deed hrs' n ((n.fdiv 4).fmod 5)
      have hdl := due_len hrs' n ((n.fdiv 4).fmod 5)
      have hdp : 0 < (dueL rs n ((n.fdiv 4).fmod 5)).length := List.length_pos_iff.mpr gN
      refine Halt.go ?_
      (rename Fr _ _ _ _ => cF); (rename News _ _ _ _ => cN)
      refine does_use (dp := 302) (un := 7) (due_any iR hrs' (by with_reducible omega)) cF X cN T rfl (by walk_at "mine bound") (by walk_at "mine bound") (by walk_at "mine pre") (by walk_at "mine rest") ?_
      clear cF cN
      intro v h' tk new hpost F' N' hap
      obtain ⟨dA, dv, dn, rfl, rfl, iD⟩ := hpost
      (try simp only [List.cons_append, List.nil_append] at N'); (try dsimp only)
      (try simp only [Apart, List.forall_mem_cons, List.not_mem_nil, false_implies, implies_true, and_true] at hap)
      k_steps
      refine Halt.go ?_
      (rename Fr _ _ _ _ => cF); (rename News _ _ _ _ => cN)
      refine does_use (dp := 302) (un := 7) (deed_does iH hhs' (by with_reducible omega)) cF X cN T rfl (by walk_at "mine bound") (by walk_at "mine bound") (by walk_at "mine pre") (by walk_at "mine rest") ?_
      clear cF cN
      intro v h' tk new hpost F' N' hap
      obtain ⟨t', hv', hn', rfl, rfl, iH'⟩ := hpost
      (try simp only [List.cons_append, List.nil_append] at N'); (try dsimp only)
      (try simp only [Apart, List.forall_mem_cons, List.not_mem_nil, false_implies, implies_true, and_true] at hap)
      clear iR
      have hvl := iH'.length
      have rvl := iD.length
      have hgl' := g'.len
      have hdd : (List.drop 1 (dueL rs n ((n.fdiv 4).fmod 5))).length ≤ rs.length := by rw [List.length_drop]; omega
      k_steps
      rotate_left
      · exact absurd g'.take1 (by assumption)
      refine Halt.go ?_
      rename_i rA' rv' _ iR' _ lR _ _ _ _ _ _ _ _ _ _ _ _ _ _ _ _ _
      have hDr : _ ∧ _ ∧ _ ∧ _ := ⟨Nat.ne_of_gt lR.1, Nat.ne_of_gt lR.2.2.1, Nat.ne_of_gt lR.2.2.2.1, Nat.ne_of_gt lR.2.2.2.2⟩
      (rename Fr _ _ _ _ => cF); (rename News _ _ _ _ => cN0)
      have cN := kst_newsOf cN0 (l' := [(hA, listOf hv'.toArray hn'), (rA', listOf rv'.toArray 0), (_, oC), (lA, listOf lv.toArray 0), (I, oI)]) (by walk_at "mine pre")
      clear cN0
      repeat ((rename _ < _ ∧ _ => hz); clear hz)
      refine doesF_use (dp := 302) (un := 7) (frs := []) (outer := []) (same_does iH' iR' (by with_reducible omega) (by with_reducible omega) (by with_reducible omega) g'.set) cF X cN T rfl rfl (by show PySem.ScopeKind.function ≠ PySem.ScopeKind.module; decide) (by walk_at "mine bound") (by walk_at "mine bound") True.intro (by walk_at "mine pre") rfl (by walk_at "mine pre") (fun _ _ _ hq => nomatch hq) (by walk_at "mine rest") ?_
      clear cF cN
      intro v h' tk new frs' hpost F' su Fs' N' hap1 hap2
      obtain ⟨rfl, rfl⟩ := hpost
      obtain rfl : frs' = [] := by cases frs' with
        | nil => rfl
        | cons => exact su.elim
      (try simp only [List.cons_append, List.nil_append, List.append_nil] at N'); (try dsimp only)
      clear hap1 hap2 su Fs'
      k_steps
      refine Halt.go ?_
      (rename Fr _ _ _ _ => eF); (rename News _ _ _ _ => eN)
      exact ⟨_, _, _, _, hv', hn', _, rA', rv', 0, _, rfl, eF, eN, by walk_at "mine pre", ⟨by with_reducible omega, by with_reducible omega, by with_reducible omega, by with_reducible omega⟩, iH', iR', g', by with_reducible omega, rfl⟩
  · clear F0 N0
    intro u h tk hv hn hs ra rv rn rs aR iH iR g hk F' N'
    have hrl : rs.length < 900 := by simp only [List.length_append, List.length_cons, List.length_nil, List.length_take] at hk; omega
    clear hnl hIt hk
    repeat ((rename _ < _ ∧ _ => hz); clear hz)
    repeat ((rename IntsAre _ (List.take _ _) => hz); clear hz)
    repeat ((rename List.length (List.take _ _) = _ => hz); clear hz)
    repeat ((rename List.length (List.take _ _) ≤ _ => hz); clear hz)
    obtain ⟨a7, a8, a9⟩ := aR
    have hgl := g.len
    have rvl := iR.length
    k_steps
    refine Halt.go ?_
    refine LCg.ListComp_U (F₀ := by k_asm) (by with_unfolding_all rfl) (by decide) (by rfl) (by decide) (by rfl) ?_
    k_steps
    refine Halt.go ?_
    (rename Fr _ _ _ _ => cF); (rename News _ _ _ _ => cN)
    refine LCg.CompSrc.ledger rfl cF cN (by k_mem) (by rw [PySem.sizeLine_eq, List.size_toArray]; omega) ?_
    clear cF cN
    intro g9
    refine pops_rest (all := rs) ?_ ?_ _ _ _ _ _ _ rs [] (by rw [List.size_toArray]; exact rvl.symm) hrl rfl .nil iH g
    · clear iH g hgl
      intro v I oI C oC D m2 ys h tk E' hv hn hs hh hl iH hC hx F' N' off ne
      simp only [LCg.Off3, and_true] at off
      k_steps
      refine Halt.go ?_
      (rename Fr _ _ _ _ => cF); (rename News _ _ _ _ => cN)
      refine does_use (dp := 302) (un := 7) (heappop_does iH hh hl) cF X cN T rfl (by walk_at "mine bound") (by walk_at "mine bound") (by walk_at "mine pre") (by walk_at "mine rest") ?_
      clear cF cN
      intro v h' tk new hpost F' N' hap
      obtain ⟨t', hv', hn', rfl, rfl, iH'⟩ := hpost
      (try simp only [List.cons_append, List.nil_append] at N'); (try dsimp only)
      (try simp only [Apart, List.forall_mem_cons, List.not_mem_nil, false_implies, implies_true, and_true] at hap)
      k_steps

      refine Halt.go ?_
      (rename Fr _ _ _ _ => eF); (rename News _ _ _ _ => eN)
      refine LCg.CompEnd.intro eF eN _ (by walk_at "mine pre") ?_ (.inr ⟨_, .head _, rfl, _, rfl⟩) ⟨hv', hn', t', rfl, iH', rfl⟩
      simp only [LCg.Off3, and_true]; exact off
    · clear iH g hgl
      intro ys hv hn iY iH
      have hvl := iY.length
      obtain rfl : hv = [] := List.length_eq_zero_iff.mp iH.length
      intro D h tk eF eN off1
      simp only [LCg.Off1, and_true] at off1
      (try dsimp only)
      k_steps
      refine Halt.go ?_
      (rename Fr _ _ _ _ => cF); (rename News _ _ _ _ => cN)
      refine does_use (dp := 302) (un := 7) (dedup_does (n := ys.length) iY (by with_reducible omega)) cF X cN T rfl (by walk_at "mine bound") (by walk_at "mine bound") (by walk_at "mine pre") (by walk_at "mine rest") ?_
      clear cF cN
      intro v h' tk new hpost F' N' hap
      obtain ⟨dA, dv, dn, rfl, rfl, hne, iD⟩ := hpost
      (try simp only [List.cons_append, List.nil_append] at N'); (try dsimp only)
      (try simp only [Apart, List.forall_mem_cons, List.not_mem_nil, false_implies, implies_true, and_true] at hap)
      k_steps
      refine Halt.go ?_
      (rename Fr _ _ _ _ => cF); (rename News _ _ _ _ => cN)
      refine does_use (dp := 302) (un := 7) (firsts_does iR (by with_reducible omega)) cF X cN T rfl (by walk_at "mine bound") (by walk_at "mine bound") (by walk_at "mine pre") (by walk_at "mine rest") ?_
      clear cF cN
      intro v h' tk new hpost F' N' hap
      obtain ⟨fA, fv, fn, rfl, rfl, hne2, iF⟩ := hpost
      (try simp only [List.cons_append, List.nil_append] at N'); (try dsimp only)
      (try simp only [Apart, List.forall_mem_cons, List.not_mem_nil, false_implies, implies_true, and_true] at hap)
      k_steps)
end Mine
end

theorem PySem.Challenge.cw_mq0166_01_holds : PySem.Challenge.rw_mq0166_01.Holds :=
  Mine.law_holds
