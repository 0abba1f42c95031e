import PyProof.Rows.All
import Wide.All
import OpenK.AllK
import Wide.FinOn
import PySem.Challenge.RW_dm0207_01
open PySem PySem.W PyProof.Rows
set_option Elab.async false
namespace Mine
noncomputable section
/-- each modifier with its at sign ahead -/
noncomputable def tails : List Str → Str
  | [] => Str.empty
  | m :: r => Str.ofString "@" ++ m ++ tails r

noncomputable def behindF (nm : Str) (ms : List Str) : Str := nm ++ tails ms

theorem strsAre_at {us : List Value} {ms : List Str} (h : StrsAre us ms) : ∀ (i : Nat) (v : Value), us[i]? = some v → ∃ x t, ms[i]? = some x ∧ v = .str x t := by
  induction h with
  | nil => intro i v hv; simp at hv
  | cons y t _ ih =>
    intro i v hv
    cases i with
    | zero => simp at hv; exact ⟨y, t, by simp, hv.symm⟩
    | succ i => simp at hv; obtain ⟨x, t', e, e'⟩ := ih i v hv; exact ⟨x, t', by simpa using e, e'⟩

theorem strsAre_get {us : List Value} {ms : List Str} (h : StrsAre us ms) : ∀ (i : Nat) (x : Str), ms[i]? = some x → ∃ t, us[i]? = some (.str x t) := by
  induction h with
  | nil => intro i v hv; simp at hv
  | cons y t _ ih =>
    intro i v hv
    cases i with
    | zero => simp at hv; exact ⟨t, by simp [hv]⟩
    | succ i => simp at hv; obtain ⟨t', e⟩ := ih i v hv; exact ⟨t', by simpa using e⟩

theorem strsAre_snoc {y : Str} {t : Tok} {vs : List Value} {ys : List Str} (h : StrsAre vs ys) : StrsAre (vs ++ [.str y t]) (ys ++ [y]) := by
  induction h with
  | nil => exact .cons y t .nil
  | cons z u _ ih => exact .cons z u ih

theorem strsAre_len {vs : List Value} {ys : List Str} (h : StrsAre vs ys) : vs.length = ys.length := by
  induction h with
  | nil => rfl
  | cons z u _ ih => simp [ih]

theorem strsAre_drop {vs : List Value} {ys : List Str} (h : StrsAre vs ys) : ∀ n, StrsAre (vs.drop n) (ys.drop n) := by
  induction h with
  | nil => intro n; simp; exact .nil
  | cons z u r ih =>
    intro n
    cases n with
    | zero => exact .cons z u r
    | succ n => simpa using ih n

theorem strsAre_take {vs : List Value} {ys : List Str} (h : StrsAre vs ys) : ∀ n, StrsAre (vs.take n) (ys.take n) := by
  induction h with
  | nil => intro n; simp; exact .nil
  | cons z u r ih =>
    intro n
    cases n with
    | zero => exact .nil
    | succ n => simpa using .cons z u (ih n)

section
variable {prog : Program} {w : World} {A : Around} {h₀ : Heap} {L : Addr} {m : Str → Option Value} {env : Env} {elt : Expr} {x : Str} {scope : Scope} {cl : List (Str × Addr)} {s : Shared} {Fin : List Value → List (Addr × Obj) → Prop} {news : List (Addr × Obj)}
/-- a comprehension over a list of texts, each made a text, nothing laid -/
theorem smap_rest {us : List Value} {ms : List Str} {S : List (Addr × Obj) → Prop} (g : Str → Str) (hi : StrsAre us ms) (hS : S news)
    (turn : ∀ y t I oI C oC D m₂ ys h tk (E' : Value → Shared → Prop), y ∈ ms → LCg.NsObj oC m₂ → m₂ x = some (.str y t) → Fr h₀ L h m → News h₀ L h ((I, oI) :: (C, oC) :: (D, LCg.lst ys) :: news) → LCg.Off3 I C D news → ((@Ne Nat I C) ∧ (@Ne Nat I D) ∧ (@Ne Nat C D)) →
      wpAny (model prog w) A (eval elt (compEnvC scope cl C env)) (fun v s' => (∃ t', v = .str (g y) t') ∧ ∃ tk', s' = { s with heap := h, toks := tk' }) E' { s with heap := h, toks := tk })
    (fin : ∀ ys, StrsAre ys (ms.map g) → Fin ys news) :
    LCg.CompRest prog w A h₀ L m env elt x scope cl s S (fun i v => us.toArray[i]? = some v) Fin us.toArray.size 0 [] news := by
  have hlen := strsAre_len hi
  have key : ∀ (j i : Nat) (ys : List Value), i + j = us.length → StrsAre ys ((ms.take i).map g) → LCg.CompRest prog w A h₀ L m env elt x scope cl s S (fun i v => us.toArray[i]? = some v) Fin j i ys news := by
    intro j
    induction j with
    | zero =>
      intro i ys hij hy
      have e : i = ms.length := hij.trans hlen
      subst e
      rw [List.take_length] at hy
      exact LCg.CompRest.zero (fin ys hy)
    | succ j ih =>
      intro i ys hij hy
      refine LCg.CompRest.succ ?_
      intro v I oI C oC D m₂ h tk E' hv hC hx F N off ne
      obtain ⟨k, t, hk, hv'⟩ := strsAre_at hi i v (by simpa using hv)
      rw [hv'] at hx
      refine wpAny_mono (turn k t I oI C oC D m₂ ys h tk E' (List.mem_of_getElem? hk) hC hx F N off ne) (fun y s₂ hq => ?_) fun _ _ e => e
      obtain ⟨⟨t', rfl⟩, tk', rfl⟩ := hq
      refine ⟨h, tk', news, rfl, F, N, off, hS, ?_⟩
      refine ih (i + 1) _ ((Nat.succ_add i j).trans hij) ?_
      rw [List.take_add_one, hk]
      simpa using strsAre_snoc hy
  have := key us.length 0 [] (Nat.zero_add _) (by simp; exact .nil)
  simpa using this

/-- the places of a range that pass a test, nothing laid -/
theorem idx_rest {n : Nat} {ct : Expr} (p : Nat → Bool)
    (test : ∀ (k : Nat) t I oI C oC D m₂ ys h tk (E' : Value → Shared → Prop), k < n → LCg.NsObj oC m₂ → m₂ x = some (.int (k : Int) t) → Fr h₀ L h m → News h₀ L h ((I, oI) :: (C, oC) :: (D, LCg.lst ys) :: news) → LCg.Off3 I C D news → ((@Ne Nat I C) ∧ (@Ne Nat I D) ∧ (@Ne Nat C D)) →
      wpAny (model prog w) A (isTrue ct (compEnvC scope cl C env) (eval ct (compEnvC scope cl C env))) (fun b s' => b = p k ∧ ∃ tk', s' = { s with heap := h, toks := tk' }) E' { s with heap := h, toks := tk })
    (elem : ∀ (k : Nat) t I oI C oC D m₂ ys h tk (E' : Value → Shared → Prop), k < n → LCg.NsObj oC m₂ → m₂ x = some (.int (k : Int) t) → Fr h₀ L h m → News h₀ L h ((I, oI) :: (C, oC) :: (D, LCg.lst ys) :: news) → LCg.Off3 I C D news → ((@Ne Nat I C) ∧ (@Ne Nat I D) ∧ (@Ne Nat C D)) →
      wpAny (model prog w) A (eval elt (compEnvC scope cl C env)) (fun v s' => (∃ t', v = .int (k : Int) t') ∧ ∃ tk', s' = { s with heap := h, toks := tk' }) E' { s with heap := h, toks := tk })
    (fin : ∀ ys, IntsAre ys (((List.range n).filter p).map fun (k : Nat) => (k : Int)) → Fin ys news) :
    LCt.CompRestT prog w A h₀ L m env ct elt x scope cl s (fun _ => True) (fun i v => ∃ t, v = .int (0 + (i : Int)) t) Fin n 0 [] news := by
  have key : ∀ (j i : Nat) (ys : List Value), i + j = n → IntsAre ys (((List.range i).filter p).map fun (k : Nat) => (k : Int)) → LCt.CompRestT prog w A h₀ L m env ct elt x scope cl s (fun _ => True) (fun i v => ∃ t, v = .int (0 + (i : Int)) t) Fin j i ys news := by
    intro j
    induction j with
    | zero =>
      intro i ys hij hy
      have e : i = n := hij
      subst e
      exact LCt.CompRestT.zero (fin ys hy)
    | succ j ih =>
      intro i ys hij hy
      refine LCt.CompRestT.succ ?_
      intro v I oI C oC D m₂ h tk E' hv hC hx F N off ne
      obtain ⟨t, rfl⟩ := hv
      rw [Int.zero_add] at hx
      have hs : List.filter p (List.range (i + 1)) = List.filter p (List.range i) ++ (if p i = true then [i] else []) := by
        rw [List.range_succ, List.filter_append]
        cases hp : p i <;> simp [hp]
      refine wpAny_mono (test i t I oI C oC D m₂ ys h tk E' (hij ▸ Nat.lt_add_of_pos_right (Nat.succ_pos j)) hC hx F N off ne) (fun b s₂ hq => ?_) fun _ _ e => e
      obtain ⟨rfl, tk', rfl⟩ := hq
      cases hp : p i with
      | true =>
        simp only [if_true]
        refine wpAny_mono (elem i t I oI C oC D m₂ ys h tk' E' (hij ▸ Nat.lt_add_of_pos_right (Nat.succ_pos j)) hC hx F N off ne) (fun y s₃ hr => ?_) fun _ _ e => e
        obtain ⟨⟨t', rfl⟩, tk'', rfl⟩ := hr
        refine ⟨h, tk'', news, rfl, F, N, off, trivial, ?_⟩
        refine ih (i + 1) _ ((Nat.succ_add i j).trans hij) ?_
        rw [hs, hp, if_pos rfl, List.map_append]
        exact IntsAre.append hy (.cons _ t' .nil)
      | false =>
        simp only [Bool.false_eq_true, if_false]
        refine ⟨h, tk', news, rfl, F, N, off, trivial, ih (i + 1) _ ((Nat.succ_add i j).trans hij) ?_⟩
        rw [hs, hp]
        simpa using hy
  exact key n 0 [] (Nat.zero_add _) (by simp; exact .nil)
end

theorem fit63 {n : Nat} (h : n ≤ 100) : (n : Int) < 2 ^ 63 := Int.lt_of_le_of_lt (Int.ofNat_le.mpr h) (by decide)
theorem item_str {prog : Program} {w : World} {A : Around} {E : Value → Shared → Prop} {s : Shared} {value slice : PySem.Expr} {l : Addr} {us : List Value} {ms : List Str} {k : Nat} {u : Tok} {Q : Value → Shared → Prop} (hl : s.heap.IsList l us.toArray) (hi : StrsAre us ms) (hk : k < ms.length) (hsz : ms.length ≤ 100)
    (h : ∀ t, Q (.str (ms.getD k Str.empty) t) s)
    (hs : subscripted slice false (.ref l) (.int (k : Int) u) = operate [.ref l, .int (k : Int) u] (getItem (.ref l) (.int (k : Int) u)) := by with_unfolding_all rfl) :
    wpAny (model prog w) A (subscriptTail value slice (.ref l) (.int (k : Int) u)) Q E s := by
  obtain ⟨t, e⟩ := strsAre_get hi k (ms.getD k Str.empty) (by simp [List.getD, hk])
  exact item_litK hl (Int.natCast_nonneg k) (fit63 (Nat.le_trans (Nat.le_of_lt hk) hsz)) (by simpa using e) (h t) hs

theorem sliceFrom (us : List Value) (k : Nat) : slicePick us.toArray (some (k : Int)) none none = (us.drop k).toArray := by
  rw [kms_pick_eq]
  show ((us.drop (min k us.length)).take (us.length - min k us.length)).toArray = _
  rw [kmk_drop_min, List.take_of_length_le]
  rw [List.length_drop]
  exact Nat.sub_le_sub_left (Nat.min_le_left k us.length) us.length
theorem sliceUpto (us : List Value) (k : Nat) : slicePick us.toArray none (some (k : Int)) none = (us.take k).toArray := by
  rw [kms_pick_eq]
  show (us.take (min k us.length)).toArray = _
  rw [kmk_take_min]

theorem small100 {n : Nat} (h : n ≤ 100) : Builtin.Range.small 0 (n : Int) 1 = true := small_one (by decide) (by decide) (Int.le_trans (by decide) (Int.natCast_nonneg n)) (Int.lt_of_le_of_lt (Int.ofNat_le.mpr h) (by decide))
theorem size0 (n : Nat) : Builtin.Range.rangeSize 0 (n : Int) 1 = ((n : Nat) : Int) := by rw [rangeSize_nat, Int.sub_zero, Int.toNat_natCast]
theorem line100 {n : Nat} (h : n ≤ 100) : n ≤ sizeLine := Nat.le_trans h (by decide)
theorem lineUs {us : List Value} {ms : List Str} (e : us.length = ms.length) (h : ms.length ≤ 100) : us.toArray.size ≤ sizeLine := by
  rw [List.size_toArray, e]; exact line100 h
theorem room1 {dp : Nat} (h : dp + 10 < recursionLimit) : dp + 1 + 2 < recursionLimit := Nat.lt_of_le_of_lt (Nat.add_le_add_left (show 3 ≤ 10 by decide) dp) h
theorem room0 {dp k : Nat} (h : dp + k < recursionLimit) : dp < recursionLimit := Nat.lt_of_le_of_lt (Nat.le_add_right _ _) h
theorem units1 {un : Nat} (h : un + 300 < cLine) : un + 3 + 200 < cLine := Nat.lt_of_le_of_lt (Nat.add_le_add_left (show 203 ≤ 300 by decide) un) h
theorem unitsEq {un k : Nat} (hk : 67 ≤ k) (h : un + k < cLine) : un + 3 + 64 < cLine := Nat.lt_of_le_of_lt (Nat.add_le_add_left hk un) h

section
variable {prog : Program} {w : World} {A : Around} {E : Value → Shared → Prop} {s : Shared}
theorem eq_int_lit {x y : Int} {t u : Tok} {c : Bool} {Q : Value → Shared → Prop} (e : decide (x = y) = c) (h : Q (.bool c) s) : wpAny (model prog w) A (compareOp .Eq (.int x t) (.int y u)) Q E s := by
  subst e
  exact PyProof.Rows.eq_int h
theorem ne_ints_lit {a b : Addr} {vs us : List Value} {ns ms : List Int} {c : Bool} {Q : Value → Shared → Prop} (e : (!decide (ns = ms)) = c) (hl : s.heap.IsList a vs.toArray) (hi : IntsAre vs ns) (hl' : s.heap.IsList b us.toArray) (hi' : IntsAre us ms) (hu : A.units + 64 < cLine)
    (h : Q (.bool c) s) : wpAny (model prog w) A (compareOp .NotEq (.ref a) (.ref b)) Q E s := ne_intsK hl hi hl' hi' hu (by rw [e]; exact h)
theorem eq_ints_lit {a b : Addr} {vs us : List Value} {ns ms : List Int} {c : Bool} {Q : Value → Shared → Prop} (e : (decide (ns = ms)) = c) (hl : s.heap.IsList a vs.toArray) (hi : IntsAre vs ns) (hl' : s.heap.IsList b us.toArray) (hi' : IntsAre us ms) (hu : A.units + 64 < cLine)
    (h : Q (.bool c) s) : wpAny (model prog w) A (compareOp .Eq (.ref a) (.ref b)) Q E s := eq_intsK hl hi hl' hi' hu (by rw [e]; exact h)
end

/-- texts that pass -/
noncomputable def AllS (P : Str → Prop) : List Value → Prop
  | [] => True
  | v :: r => (∃ y t, v = .str y t ∧ P y) ∧ AllS P r
theorem allS_at {P : Str → Prop} {vs : List Value} : ∀ {k : Nat}, AllS P vs → k < vs.length → ∃ y t, vs[k]? = some (.str y t) ∧ P y := by
  induction vs with
  | nil => intro k _ h; exact absurd h (Nat.not_lt_zero _)
  | cons v r ih =>
    intro k h hk
    cases k with
    | zero =>
      obtain ⟨y, t, rfl, hy⟩ := h.1
      exact ⟨y, t, rfl, hy⟩
    | succ k => exact ih h.2 (Nat.lt_of_succ_lt_succ hk)

/-- an item of a written list of texts at a remainder, whichever -/
theorem pick_any {P : Str → Prop} {prog : Program} {w : World} {A : Around} {E : Value → Shared → Prop} {s : Shared} {value slice : PySem.Expr} {l : Addr} {vs : List Value} {n d : Int} {u : Tok} {Q : Value → Shared → Prop}
    (hl : s.heap.IsList l vs.toArray) (hP : AllS P vs) (hd : d = (vs.length : Int)) (h0 : 0 < d) (h1 : d < 100)
    (h : ∀ y t, P y → Q (.str y t) s)
    (hs : subscripted slice false (.ref l) (.int (n.fmod d) u) = operate [.ref l, .int (n.fmod d) u] (getItem (.ref l) (.int (n.fmod d) u))) :
    wpAny (model prog w) A (subscriptTail value slice (.ref l) (.int (n.fmod d) u)) Q E s := by
  have e : n.fmod d = n % d := Int.fmod_eq_emod_of_nonneg _ (Int.le_of_lt h0)
  have b0 : 0 ≤ n.fmod d := e ▸ Int.emod_nonneg _ (Int.ne_of_gt h0)
  have b1 : n.fmod d < d := e ▸ Int.emod_lt_of_pos _ h0
  obtain ⟨y, t, ey, hy⟩ := allS_at (k := (n.fmod d).toNat) hP ((Int.toNat_lt b0).mpr (hd ▸ b1))
  exact item_litK hl b0 (Int.lt_trans b1 (Int.lt_trans h1 (by decide))) ey (h y t hy) hs

noncomputable def euroT : Str := Str.ofString "euro"

noncomputable def afterF (ms : List Str) : List Str := ms.dropWhile (· == euroT)

/-- the first place that passes a test -/
theorem filter_range_nil {p : Nat → Bool} {n : Nat} (h : (List.range n).filter p = []) : ∀ i, i < n → p i = false := by
  intro i hi
  have := List.filter_eq_nil_iff.mp h i (List.mem_range.mpr hi)
  simpa using this
theorem filter_range_cons {p : Nat → Bool} {n k : Nat} {r : List Nat} (h : (List.range n).filter p = k :: r) : k < n ∧ p k = true ∧ ∀ i, i < k → p i = false := by
  have hm : k ∈ (List.range n).filter p := by rw [h]; exact .head _
  have hk := List.mem_filter.mp hm
  refine ⟨List.mem_range.mp hk.1, hk.2, fun i hi => ?_⟩
  cases hp : p i with
  | false => rfl
  | true =>
    exfalso
    have hi' : i ∈ (List.range n).filter p := List.mem_filter.mpr ⟨List.mem_range.mpr (Nat.lt_trans hi (List.mem_range.mp hk.1)), hp⟩
    have hsort : ((List.range n).filter p).Pairwise (· < ·) := List.Pairwise.filter _ (List.pairwise_lt_range)
    rw [h] at hi' hsort
    rcases List.mem_cons.mp hi' with rfl | hi'
    · exact absurd hi (Nat.lt_irrefl _)
    · have := (List.pairwise_cons.mp hsort).1 i hi'
      exact absurd (Nat.lt_trans hi this) (Nat.lt_irrefl _)
theorem dropWhile_places (q : Str → Bool) : ∀ (ms : List Str) (k : Nat), k ≤ ms.length → (∀ i, i < k → q (ms.getD i Str.empty) = true) → (k < ms.length → q (ms.getD k Str.empty) = false) → ms.dropWhile q = ms.drop k
  | [], k, h, _, _ => by
    have : k = 0 := by simpa using h
    subst this
    rfl
  | y :: r, 0, _, _, h => by
    have := h (by simp)
    rw [List.getD_cons_zero] at this
    rw [List.dropWhile_cons, this]
    rfl
  | y :: r, k + 1, h, h1, h2 => by
    have := h1 0 (Nat.succ_pos _)
    rw [List.getD_cons_zero] at this
    rw [List.dropWhile_cons, this, if_pos rfl, List.drop_succ_cons]
    refine dropWhile_places q r k (by simpa using h) (fun i hi => ?_) (fun hk => ?_)
    · have := h1 (i + 1) (Nat.succ_lt_succ hi)
      rwa [List.getD_cons_succ] at this
    · have := h2 (by simpa using hk)
      rwa [List.getD_cons_succ] at this
theorem after_nil {ms : List Str} (h : (List.range ms.length).filter (fun k => !(ms.getD k Str.empty == euroT)) = []) : afterF ms = [] := by
  have h1 := filter_range_nil h
  have := dropWhile_places (· == euroT) ms ms.length (Nat.le_refl _) (fun i hi => by simpa using h1 i hi) (fun h => absurd h (Nat.lt_irrefl _))
  rw [afterF, this, List.drop_length]
theorem after_cons {ms : List Str} {k : Nat} {r : List Nat} (h : (List.range ms.length).filter (fun k => !(ms.getD k Str.empty == euroT)) = k :: r) : k < ms.length ∧ afterF ms = ms.drop k := by
  obtain ⟨h1, h2, h3⟩ := filter_range_cons h
  exact ⟨h1, dropWhile_places (· == euroT) ms k (Nat.le_of_lt h1) (fun i hi => by simpa using h3 i hi) (fun _ => by simpa using h2)⟩

theorem sum_tails (ms : List Str) : ((ms.map fun y => Str.ofString "@" ++ y).map (·.length)).sum = (tails ms).length := by
  induction ms with
  | nil => rfl
  | cons y r ih => rw [List.map_cons, List.map_cons, List.sum_cons, ih, tails, Str.length_append (Str.ofString "@" ++ y)]

theorem join_tails (ms : List Str) : Txt.join (Str.ofString "") (ms.map fun y => Str.ofString "@" ++ y) = tails ms := by
  have e0 : Str.ofString "" = Str.empty := by decide
  have e1 : Txt.join (Str.ofString "") (ms.map fun y => Str.ofString "@" ++ y) = Str.join (Str.ofString "") (ms.map fun y => Str.ofString "@" ++ y) := eq_of_beq (join_plain_closes _ _)
  rw [e1, e0]
  clear e0 e1
  induction ms with
  | nil => rfl
  | cons y r ih =>
    cases r with
    | nil => simp [Str.join, tails, Str.append_empty]
    | cons z r =>
      show (Str.ofString "@" ++ y) ++ Str.empty ++ Str.join Str.empty ((z :: r).map fun y => Str.ofString "@" ++ y) = _
      rw [ih, Str.append_empty]
      rfl

theorem tails_len {ms : List Str} (h : ∀ x ∈ ms, x.length ≤ 20) : (tails ms).length ≤ 21 * ms.length := by
  induction ms with
  | nil => exact Nat.le_refl 0
  | cons y r ih =>
    have h1 := h y (.head _)
    have h2 := ih fun x hx => h x (.tail _ hx)
    rw [tails, Str.length_append, Str.length_append, List.length_cons, Nat.mul_succ, Nat.add_comm]
    exact Nat.add_le_add h2 (Nat.add_le_add_left h1 1)

theorem join_fit {ms : List Str} (h : ∀ x ∈ ms, x.length ≤ 20) (hl : ms.length ≤ 100) : ((ms.map fun y => Str.ofString "@" ++ y).map (·.length)).sum + (ms.map fun y => Str.ofString "@" ++ y).length * (Str.ofString "").length ≤ 16777216 := by
  rw [sum_tails]
  exact Nat.le_trans (tails_len h) (Nat.le_trans (Nat.mul_le_mul_left 21 hl) (by decide))



noncomputable def dotT : Str := Str.ofString "."
noncomputable def encF (code : Str) : Str := (Txt.partition code (Str.ofString ".")).2.2
noncomputable def noDot (code : Str) : Bool := (Builtin.Str.occurrences code (Str.ofString ".") 0 code.length 1).isEmpty

noncomputable def appendF (code md : Str) : Str :=
  if md = Str.ofString "euro" then
    if noDot code = true then code ++ Str.ofString ".ISO8859-15"
    else if encF code = Str.ofString "ISO8859-15" ∨ encF code = Str.ofString "UTF-8" then code
    else code ++ Str.ofString "@" ++ md
  else code ++ Str.ofString "@" ++ md

theorem app_dot {code md : Str} (h1 : (md == Str.ofString "euro") = true) (h2 : (Builtin.Str.occurrences code (Str.ofString ".") 0 code.length 1).isEmpty = true) : code ++ Str.ofString ".ISO8859-15" = appendF code md := by
  have e : md = Str.ofString "euro" := eq_of_beq h1
  have e2 : noDot code = true := h2
  rw [appendF, if_pos e, if_pos e2]
theorem app_stay {code md : Str} (h1 : (md == Str.ofString "euro") = true) (h2 : (Builtin.Str.occurrences code (Str.ofString ".") 0 code.length 1).isEmpty = false)
    (h3 : ([Str.ofString "ISO8859-15", Str.ofString "UTF-8"].any fun x => x == (Txt.partition code (Str.ofString ".")).snd.snd) = true) : code = appendF code md := by
  have e : md = Str.ofString "euro" := eq_of_beq h1
  have e2 : ¬ noDot code = true := by unfold noDot; rw [h2]; simp
  have e3 : encF code = Str.ofString "ISO8859-15" ∨ encF code = Str.ofString "UTF-8" := by
    unfold encF
    generalize (Txt.partition code (Str.ofString ".")).snd.snd = z at h3 ⊢
    rw [List.any_cons, List.any_cons, List.any_nil, Bool.or_false, Bool.or_eq_true] at h3
    rcases h3 with h | h
    · exact .inl (eq_of_beq h).symm
    · exact .inr (eq_of_beq h).symm
  rw [appendF, if_pos e, if_neg e2, if_pos e3]
theorem app_more {code md : Str} (h1 : (md == Str.ofString "euro") = true) (h2 : (Builtin.Str.occurrences code (Str.ofString ".") 0 code.length 1).isEmpty = false)
    (h3 : ([Str.ofString "ISO8859-15", Str.ofString "UTF-8"].any fun x => x == (Txt.partition code (Str.ofString ".")).snd.snd) = false) : code ++ Str.ofString "@" ++ md = appendF code md := by
  have e : md = Str.ofString "euro" := eq_of_beq h1
  have e2 : ¬ noDot code = true := by unfold noDot; rw [h2]; simp
  have e3 : ¬ (encF code = Str.ofString "ISO8859-15" ∨ encF code = Str.ofString "UTF-8") := by
    unfold encF
    generalize (Txt.partition code (Str.ofString ".")).snd.snd = z at h3 ⊢
    rw [List.any_cons, List.any_cons, List.any_nil, Bool.or_false, Bool.or_eq_false_iff] at h3
    rintro (h | h)
    · rw [h] at h3; simp at h3
    · rw [h] at h3; simp at h3
  rw [appendF, if_pos e, if_neg e2, if_neg e3]
theorem app_plain {code md : Str} (h1 : (md == Str.ofString "euro") = false) : code ++ Str.ofString "@" ++ md = appendF code md := by
  have e : ¬ md = Str.ofString "euro" := by intro h; rw [h] at h1; simp at h1
  rw [appendF, if_neg e]


noncomputable def other (y : Str) : Bool := !(y == euroT)

noncomputable def dueF (nm : Str) (ms : List Str) : Str :=
  if Txt.count nm (Str.ofString ".") = 0 then
    if ms.dropWhile other = [] then behindF nm ms
    else behindF (behindF nm (ms.takeWhile other) ++ Str.ofString ".ISO8859-15") (afterF (ms.dropWhile other))
  else if Txt.count nm (Str.ofString ".") = 1 ∧ (Txt.endswith nm (Str.ofString ".ISO8859-15") = true ∨ Txt.endswith nm (Str.ofString ".UTF-8") = true) then behindF nm (afterF ms)
  else behindF nm ms

theorem takeWhile_of_drop (q : Str → Bool) (ms : List Str) {k : Nat} (h : ms.dropWhile q = ms.drop k) : ms.takeWhile q = ms.take k := by
  have h1 : ms.takeWhile q ++ ms.dropWhile q = ms := List.takeWhile_append_dropWhile
  have h2 : ms.take k ++ ms.drop k = ms := List.take_append_drop k ms
  rw [h] at h1
  exact List.append_cancel_right (h1.trans h2.symm)

theorem euros_nil {ms : List Str} (h : (List.range ms.length).filter (fun k => ms.getD k Str.empty == euroT) = []) : ms.dropWhile other = [] := by
  have h1 := filter_range_nil h
  have := dropWhile_places other ms ms.length (Nat.le_refl _) (fun i hi => by unfold other; rw [h1 i hi]; rfl) (fun h => absurd h (Nat.lt_irrefl _))
  rw [this, List.drop_length]
theorem euros_cons {ms : List Str} {k : Nat} {r : List Nat} (h : (List.range ms.length).filter (fun k => ms.getD k Str.empty == euroT) = k :: r) :
    k < ms.length ∧ ms.dropWhile other = ms.drop k ∧ ms.takeWhile other = ms.take k := by
  obtain ⟨h1, h2, h3⟩ := filter_range_cons h
  have := dropWhile_places other ms k (Nat.le_of_lt h1) (fun i hi => by unfold other; rw [h3 i hi]; rfl) (fun _ => by unfold other; rw [h2]; rfl)
  exact ⟨h1, this, takeWhile_of_drop _ _ this⟩

theorem due_iso {nm : Str} {ms : List Str} (h0 : ¬ Txt.count nm (Str.ofString ".") = 0) (h1 : Txt.count nm (Str.ofString ".") = 1) (h2 : Txt.endswith nm (Str.ofString ".ISO8859-15") = true) : behindF nm (afterF ms) = dueF nm ms := by
  rw [dueF, if_neg h0, if_pos ⟨h1, .inl h2⟩]
theorem due_utf {nm : Str} {ms : List Str} (h0 : ¬ Txt.count nm (Str.ofString ".") = 0) (h1 : Txt.count nm (Str.ofString ".") = 1) (h2 : Txt.endswith nm (Str.ofString ".UTF-8") = true) : behindF nm (afterF ms) = dueF nm ms := by
  rw [dueF, if_neg h0, if_pos ⟨h1, .inr h2⟩]
theorem due_neither {nm : Str} {ms : List Str} (h0 : ¬ Txt.count nm (Str.ofString ".") = 0) (h1 : Txt.endswith nm (Str.ofString ".ISO8859-15") = false) (h2 : Txt.endswith nm (Str.ofString ".UTF-8") = false) : behindF nm ms = dueF nm ms := by
  rw [dueF, if_neg h0, if_neg]
  rintro ⟨_, h | h⟩
  · rw [h1] at h; cases h
  · rw [h2] at h; cases h
theorem due_many {nm : Str} {ms : List Str} (h0 : ¬ Txt.count nm (Str.ofString ".") = 0) (h1 : Txt.count nm (Str.ofString ".") ≠ 1) : behindF nm ms = dueF nm ms := by
  rw [dueF, if_neg h0, if_neg fun h => h1 h.1]
theorem due_none {nm : Str} {ms : List Str} (h0 : Txt.count nm (Str.ofString ".") = 0) (h1 : ms.dropWhile other = []) : behindF nm ms = dueF nm ms := by
  rw [dueF, if_pos h0, if_pos h1]
theorem due_some {nm : Str} {ms : List Str} {k : Nat} (h0 : Txt.count nm (Str.ofString ".") = 0) (hk : k < ms.length) (h1 : ms.dropWhile other = ms.drop k) (h2 : ms.takeWhile other = ms.take k) :
    behindF (behindF nm (ms.take k) ++ Str.ofString ".ISO8859-15") (afterF (ms.drop k)) = dueF nm ms := by
  rw [dueF, if_pos h0, h1, h2, if_neg]
  intro h
  exact Nat.not_le.mpr hk (List.drop_eq_nil_iff.mp h)

theorem after_len {ms : List Str} (h : ms.length ≤ 100) : (afterF ms).length ≤ 100 :=
  Nat.le_trans (List.dropWhile_sublist (· == euroT) |>.length_le) h
theorem after_mem {ms : List Str} (h : ∀ x ∈ ms, x.length ≤ 20) : ∀ x ∈ afterF ms, x.length ≤ 20 :=
  fun x hx => h x (List.dropWhile_sublist (· == euroT) |>.subset hx)
theorem nm_len {nm : Str} (h : nm.length ≤ 100) : nm.length ≤ 5000 := Nat.le_trans h (by decide)
theorem take_le {ms : List Str} (k : Nat) (h : ms.length ≤ 100) : (ms.take k).length ≤ 100 := Nat.le_trans (List.length_take_le' k ms) h
theorem drop_le {ms : List Str} (k : Nat) (h : ms.length ≤ 100) : (ms.drop k).length ≤ 100 := Nat.le_trans (by rw [List.length_drop]; exact Nat.sub_le _ _) h
theorem head_len {nm : Str} {ms : List Str} (hn : nm.length ≤ 100) (hl : ms.length ≤ 100) (hm : ∀ x ∈ ms, x.length ≤ 20) : (behindF nm ms).length ≤ 3000 := by
  rw [behindF, Str.length_append]
  exact Nat.le_trans (Nat.add_le_add hn (Nat.le_trans (tails_len hm) (Nat.mul_le_mul_left 21 hl))) (by decide)
theorem head2_len {x : Str} (h : x.length ≤ 3000) : (x ++ Str.ofString ".ISO8859-15").length ≤ 5000 := by
  rw [Str.length_append]
  exact Nat.le_trans (Nat.add_le_add_right h _) (by decide)
theorem count_n {prog : Program} {w : World} {A : Around} {E : Value → Shared → Prop} {s : Shared} {x y : Str} {t u : Tok} {Q : Value → Shared → Prop} (h : ∀ (n : Int) t' k, Txt.count x y = n → Q (.int n t') { s with toks := k }) :
    wpAny (model prog w) A (call (.builtin "str.count") [.str x t, .str y u]) Q E s := SC.count (h _ _ _ rfl)


/-- a modifier: short, without a point -/
noncomputable def Good (y : Str) : Prop := y.length ≤ 20 ∧ 46 ∉ y.cps.toList

theorem dot_lit : Str.ofString "." = ⟨#[46]⟩ := by decide

theorem mem_app {c : Nat} (a b : Str) : c ∈ (a ++ b).cps.toList ↔ c ∈ a.cps.toList ∨ c ∈ b.cps.toList := by
  rw [Str.cps_append, Array.toList_append, List.mem_append]

theorem noDot_iff (x : Str) : noDot x = true ↔ 46 ∉ x.cps.toList := by
  have h := StrLaws.found_one x 46
  unfold noDot
  rw [dot_lit]
  cases hb : (Builtin.Str.occurrences x ⟨#[46]⟩ 0 x.length 1).isEmpty with
  | true => rw [hb] at h; simp at h; simpa using h
  | false => rw [hb] at h; simp at h; simpa using h

theorem encF_none {x : Str} (h : 46 ∉ x.cps.toList) : encF x = Str.empty := by
  unfold encF
  rw [dot_lit]
  rcases partition_whole x ⟨#[46]⟩ with ⟨hp, _⟩ | ⟨i, _, hi, _⟩
  · rw [hp]
  · exact absurd ((mem_iff_at x 46).mpr ⟨i, hi⟩) h

theorem encF_some {x : Str} (h : 46 ∈ x.cps.toList) : (⟨#[46]⟩ : Str) ++ encF x = ⟨(x.cps.toList.dropWhile (· != 46)).toArray⟩ := by
  have hd : noDot x = false := by
    cases hb : noDot x with
    | false => rfl
    | true => exact absurd h ((noDot_iff x).mp hb)
  unfold noDot at hd
  rw [dot_lit] at hd
  unfold encF
  rw [dot_lit]
  exact eq_of_beq (from_first_some (c := 46) rfl rfl hd)

theorem dropWhile_app {c : Nat} : ∀ {l : List Nat} (r : List Nat), c ∉ l → (l ++ c :: r).dropWhile (· != c) = c :: r
  | [], r, _ => by rw [List.nil_append, List.dropWhile_cons_of_neg (by simp)]
  | k :: l, r, h => by
    have h1 : k ≠ c := fun e => h (e ▸ List.mem_cons_self ..)
    rw [List.cons_append, List.dropWhile_cons_of_pos (by simp [h1])]
    exact dropWhile_app r fun m => h (List.mem_cons_of_mem _ m)

/-- what stands behind the first point -/
theorem encF_of {a b : Str} (ha : 46 ∉ a.cps.toList) : encF (a ++ (Str.ofString "." ++ b)) = b := by
  rw [dot_lit]
  have hx : (a ++ ((⟨#[46]⟩ : Str) ++ b)).cps.toList = a.cps.toList ++ 46 :: b.cps.toList := by
    simp [Str.cps_append]
  have h := encF_some (x := a ++ ((⟨#[46]⟩ : Str) ++ b)) (by rw [hx]; simp)
  rw [hx, dropWhile_app _ ha] at h
  have h2 := congrArg (fun z : Str => z.cps.toList) h
  simp [Str.cps_append] at h2
  exact Str.ext' h2
theorem hasDot_of (a b : Str) : ¬ noDot (a ++ (Str.ofString "." ++ b)) = true := by
  intro h
  have := (noDot_iff _).mp h
  apply this
  rw [mem_app, mem_app, dot_lit]
  exact .inr (.inl (by simp))

theorem tails_app (ms : List Str) (r : List Str) : tails (ms ++ r) = tails ms ++ tails r := by
  induction ms with
  | nil => exact (Str.empty_append _).symm
  | cons y ms ih => rw [List.cons_append, tails, tails, ih, Str.append_assoc, Str.append_assoc, Str.append_assoc]
theorem tails_one (m : Str) : tails [m] = Str.ofString "@" ++ m := by
  rw [tails, tails, Str.append_empty]
theorem behind_snoc (nm : Str) (ms : List Str) (m : Str) : behindF nm (ms ++ [m]) = behindF nm ms ++ Str.ofString "@" ++ m := by
  rw [behindF, tails_app, tails_one, behindF, Str.append_assoc, Str.append_assoc]
theorem behind_nil (nm : Str) : behindF nm [] = nm := Str.append_empty nm

theorem tails_at {ms : List Str} (h : ms ≠ []) : 64 ∈ (tails ms).cps.toList := by
  cases ms with
  | nil => exact absurd rfl h
  | cons y r =>
    rw [tails, mem_app, mem_app]
    exact .inl (.inl (by decide))
theorem tails_noDot {ms : List Str} (h : ∀ y ∈ ms, Good y) : 46 ∉ (tails ms).cps.toList := by
  induction ms with
  | nil => decide
  | cons y r ih =>
    rw [tails, mem_app, mem_app]
    rintro ((h1 | h1) | h1)
    · exact absurd h1 (by decide)
    · exact (h y (.head _)).2 h1
    · exact ih (fun z hz => h z (.tail _ hz)) h1

theorem after_snoc_ne {ms : List Str} {m : Str} (h : afterF ms ≠ [] ∨ m ≠ euroT) : afterF (ms ++ [m]) = afterF ms ++ [m] := by
  unfold afterF at *
  induction ms with
  | nil =>
    rcases h with h | h
    · exact absurd rfl h
    · rw [List.nil_append, List.dropWhile_cons, if_neg (by simpa using h)]; rfl
  | cons y r ih =>
    rw [List.cons_append, List.dropWhile_cons, List.dropWhile_cons]
    by_cases hy : (y == euroT) = true
    · rw [if_pos hy, if_pos hy]
      refine ih ?_
      rcases h with h | h
      · rw [List.dropWhile_cons, if_pos hy] at h; exact .inl h
      · exact .inr h
    · rw [if_neg hy, if_neg hy]; rfl
theorem after_snoc_nil {ms : List Str} {m : Str} (h : afterF ms = []) (hm : m = euroT) : afterF (ms ++ [m]) = [] := by
  unfold afterF at *
  induction ms with
  | nil => rw [List.nil_append, List.dropWhile_cons, if_pos (by simpa using hm)]; rfl
  | cons y r ih =>
    rw [List.dropWhile_cons] at h
    by_cases hy : (y == euroT) = true
    · rw [if_pos hy] at h
      rw [List.cons_append, List.dropWhile_cons, if_pos hy]
      exact ih h
    · rw [if_neg hy] at h; cases h

theorem no_at_iso1 : 64 ∉ (Str.ofString "ISO8859-1").cps.toList := by decide
theorem no_at_iso15 : 64 ∉ (Str.ofString "ISO8859-15").cps.toList := by decide
theorem no_at_utf8 : 64 ∉ (Str.ofString "UTF-8").cps.toList := by decide

theorem euro_lit : euroT = Str.ofString "euro" := rfl

theorem app_other {code m : Str} (h : m ≠ euroT) : appendF code m = code ++ Str.ofString "@" ++ m := by
  rw [appendF, if_neg (by rw [← euro_lit]; exact h)]
theorem app_euro {code m : Str} (h : m = euroT) : appendF code m = if noDot code = true then code ++ Str.ofString ".ISO8859-15"
    else if encF code = Str.ofString "ISO8859-15" ∨ encF code = Str.ofString "UTF-8" then code
    else code ++ Str.ofString "@" ++ m := by
  rw [appendF, if_pos (h.trans euro_lit)]

/-- behind a base that stands on ISO8859-15 or UTF-8 -/
theorem step_on {a b : Str} {ms : List Str} (m : Str) (ha : 46 ∉ a.cps.toList) (hb : b = Str.ofString "ISO8859-15" ∨ b = Str.ofString "UTF-8") :
    appendF (behindF (a ++ (Str.ofString "." ++ b)) (afterF ms)) m = behindF (a ++ (Str.ofString "." ++ b)) (afterF (ms ++ [m])) ∧ encF (behindF (a ++ (Str.ofString "." ++ b)) (afterF ms)) ≠ Str.ofString "ISO8859-1" := by
  have hx : behindF (a ++ (Str.ofString "." ++ b)) (afterF ms) = a ++ (Str.ofString "." ++ (b ++ tails (afterF ms))) := by
    rw [behindF, Str.append_assoc, Str.append_assoc]
  have he : encF (behindF (a ++ (Str.ofString "." ++ b)) (afterF ms)) = b ++ tails (afterF ms) := by rw [hx, encF_of ha]
  have hd : ¬ noDot (behindF (a ++ (Str.ofString "." ++ b)) (afterF ms)) = true := by rw [hx]; exact hasDot_of _ _
  by_cases hn : afterF ms = []
  · rw [hn, tails, Str.append_empty] at he
    constructor
    · by_cases hm : m = euroT
      · rw [app_euro hm, if_neg hd, if_pos (by rw [hn, he]; exact hb), after_snoc_nil hn hm, hn]
      · rw [app_other hm, after_snoc_ne (.inr hm), behind_snoc]
    · rw [hn, he]
      rcases hb with h | h <;> rw [h] <;> decide
  · have h64 : 64 ∈ (b ++ tails (afterF ms)).cps.toList := (mem_app _ _).mpr (.inr (tails_at hn))
    constructor
    · rw [after_snoc_ne (.inl hn), behind_snoc]
      by_cases hm : m = euroT
      · rw [app_euro hm, if_neg hd, if_neg]
        rw [he]
        rintro (h | h)
        · rw [h] at h64; exact no_at_iso15 h64
        · rw [h] at h64; exact no_at_utf8 h64
      · exact app_other hm
    · rw [he]
      intro h
      rw [h] at h64
      exact no_at_iso1 h64

/-- behind a base that stands on something else -/
theorem step_off {a b : Str} (ms : List Str) (m : Str) (ha : 46 ∉ a.cps.toList) (h1 : b ≠ Str.ofString "ISO8859-15") (h2 : b ≠ Str.ofString "UTF-8") (h3 : b ≠ Str.ofString "ISO8859-1") :
    appendF (behindF (a ++ (Str.ofString "." ++ b)) ms) m = behindF (a ++ (Str.ofString "." ++ b)) (ms ++ [m]) ∧ encF (behindF (a ++ (Str.ofString "." ++ b)) ms) ≠ Str.ofString "ISO8859-1" := by
  have hx : behindF (a ++ (Str.ofString "." ++ b)) ms = a ++ (Str.ofString "." ++ (b ++ tails ms)) := by
    rw [behindF, Str.append_assoc, Str.append_assoc]
  have he : encF (behindF (a ++ (Str.ofString "." ++ b)) ms) = b ++ tails ms := by rw [hx, encF_of ha]
  have hd : ¬ noDot (behindF (a ++ (Str.ofString "." ++ b)) ms) = true := by rw [hx]; exact hasDot_of _ _
  have hne : ∀ z : Str, 64 ∉ z.cps.toList → b ≠ z → b ++ tails ms ≠ z := by
    intro z hz hbz h
    cases ms with
    | nil => rw [tails, Str.append_empty] at h; exact hbz h
    | cons y r =>
      apply hz
      rw [← h]
      exact (mem_app _ _).mpr (.inr (tails_at (by simp)))
  rw [behind_snoc, he]
  refine ⟨?_, hne _ no_at_iso1 h3⟩
  by_cases hm : m = euroT
  · rw [app_euro hm, if_neg hd, if_neg]
    rw [he]
    rintro (h | h)
    · exact hne _ no_at_iso15 h1 h
    · exact hne _ no_at_utf8 h2 h
  · exact app_other hm

theorem drop_other_snoc {ms : List Str} {m : Str} (h : ms.dropWhile other ≠ []) : (ms ++ [m]).dropWhile other = ms.dropWhile other ++ [m] ∧ (ms ++ [m]).takeWhile other = ms.takeWhile other := by
  induction ms with
  | nil => exact absurd rfl h
  | cons y r ih =>
    rw [List.cons_append, List.dropWhile_cons, List.dropWhile_cons, List.takeWhile_cons, List.takeWhile_cons]
    rw [List.dropWhile_cons] at h
    cases hy : other y with
    | true =>
      rw [hy, if_pos rfl] at h
      obtain ⟨h1, h2⟩ := ih h
      rw [if_pos rfl, if_pos rfl, h1, h2]
      exact ⟨rfl, rfl⟩
    | false => simp
theorem other_snoc_nil {ms : List Str} {m : Str} (h : ms.dropWhile other = []) :
    (m = euroT → (ms ++ [m]).dropWhile other = [m] ∧ (ms ++ [m]).takeWhile other = ms) ∧ (m ≠ euroT → (ms ++ [m]).dropWhile other = []) := by
  have h1 : ∀ y ∈ ms, other y = true := by
    clear m
    induction ms with
    | nil => intro y hy; cases hy
    | cons z r ih =>
      rw [List.dropWhile_cons] at h
      cases hz : other z with
      | false => rw [hz] at h; simp at h
      | true =>
        rw [hz, if_pos rfl] at h
        intro y hy
        rcases List.mem_cons.mp hy with rfl | hy
        · exact hz
        · exact ih h y hy
  have h2 : (ms ++ [m]).dropWhile other = [m].dropWhile other := by
    rw [List.dropWhile_append, h]; rfl
  have h3 : (ms ++ [m]).takeWhile other = ms ++ [m].takeWhile other := List.takeWhile_append_of_pos h1
  constructor
  · intro hm
    have ho : other m = false := by rw [hm]; unfold other; simp
    rw [h2, h3, List.dropWhile_cons, List.takeWhile_cons, ho]
    simp
  · intro hm
    have ho : other m = true := by unfold other; simpa using hm
    rw [h2, List.dropWhile_cons, ho]
    rfl

/-- a name without a point -/
theorem step_bare {st : Str} {ms : List Str} (m : Str) (hst : 46 ∉ st.cps.toList) (hc : Txt.count st (Str.ofString ".") = 0) (hms : ∀ y ∈ ms, Good y) :
    appendF (dueF st ms) m = dueF st (ms ++ [m]) ∧ encF (dueF st ms) ≠ Str.ofString "ISO8859-1" := by
  by_cases hn : ms.dropWhile other = []
  · have e : dueF st ms = behindF st ms := (due_none hc hn).symm
    have hnd : 46 ∉ (behindF st ms).cps.toList := by
      rw [behindF, mem_app]
      rintro (h | h)
      · exact hst h
      · exact tails_noDot hms h
    rw [e]
    refine ⟨?_, by rw [encF_none hnd]; decide⟩
    by_cases hm : m = euroT
    · obtain ⟨h1, h2⟩ := (other_snoc_nil (m := m) hn).1 hm
      rw [app_euro hm, if_pos ((noDot_iff _).mpr hnd), dueF, if_pos hc, h1, h2, if_neg (by simp)]
      have h3 : afterF [m] = [] := after_snoc_nil (ms := []) rfl hm
      rw [h3, behind_nil]
    · have h1 := (other_snoc_nil (m := m) hn).2 hm
      rw [dueF, if_pos hc, if_pos h1, behind_snoc, app_other hm]
  · obtain ⟨h1, h2⟩ := drop_other_snoc (m := m) hn
    have hpre : ∀ y ∈ ms.takeWhile other, Good y := fun y hy => hms y ((List.takeWhile_sublist other).subset hy)
    have hnd : 46 ∉ (behindF st (ms.takeWhile other)).cps.toList := by
      rw [behindF, mem_app]
      rintro (h | h)
      · exact hst h
      · exact tails_noDot hpre h
    have e15 : Str.ofString ".ISO8859-15" = Str.ofString "." ++ Str.ofString "ISO8859-15" := by decide
    have e1 : dueF st ms = behindF (behindF st (ms.takeWhile other) ++ (Str.ofString "." ++ Str.ofString "ISO8859-15")) (afterF (ms.dropWhile other)) := by
      rw [dueF, if_pos hc, if_neg hn, e15]
    have e2 : dueF st (ms ++ [m]) = behindF (behindF st (ms.takeWhile other) ++ (Str.ofString "." ++ Str.ofString "ISO8859-15")) (afterF (ms.dropWhile other ++ [m])) := by
      rw [dueF, if_pos hc, h1, h2, if_neg (by simp), e15]
    rw [e1, e2]
    exact step_on m hnd (.inl rfl)

/-- the three makes of a name to begin with -/
inductive Starts : Str → Prop
  | bare {st : Str} : 46 ∉ st.cps.toList → Txt.count st (Str.ofString ".") = 0 → st.length ≤ 100 → Starts st
  | on (a b : Str) {st : Str} : st = a ++ (Str.ofString "." ++ b) → 46 ∉ a.cps.toList → (b = Str.ofString "ISO8859-15" ∨ b = Str.ofString "UTF-8") →
      Txt.count st (Str.ofString ".") = 1 → (Txt.endswith st (Str.ofString ".ISO8859-15") = true ∨ Txt.endswith st (Str.ofString ".UTF-8") = true) → st.length ≤ 100 → Starts st
  | off (a b : Str) {st : Str} : st = a ++ (Str.ofString "." ++ b) → 46 ∉ a.cps.toList → b ≠ Str.ofString "ISO8859-15" → b ≠ Str.ofString "UTF-8" → b ≠ Str.ofString "ISO8859-1" →
      Txt.count st (Str.ofString ".") ≠ 0 → ¬ (Txt.count st (Str.ofString ".") = 1 ∧ (Txt.endswith st (Str.ofString ".ISO8859-15") = true ∨ Txt.endswith st (Str.ofString ".UTF-8") = true)) → st.length ≤ 100 → Starts st

theorem Starts.len {st : Str} (h : Starts st) : st.length ≤ 100 := by
  cases h <;> assumption

theorem step_all {st : Str} (h : Starts st) {ms : List Str} (m : Str) (hms : ∀ y ∈ ms, Good y) :
    appendF (dueF st ms) m = dueF st (ms ++ [m]) ∧ encF (dueF st ms) ≠ Str.ofString "ISO8859-1" := by
  cases h with
  | bare h1 h2 _ => exact step_bare m h1 h2 hms
  | on a b e h1 h2 h3 h4 _ =>
    have hz : ¬ Txt.count st (Str.ofString ".") = 0 := by rw [h3]; decide
    have e1 : ∀ l, dueF st l = behindF st (afterF l) := fun l => by rw [dueF, if_neg hz, if_pos ⟨h3, h4⟩]
    rw [e1, e1, e]
    exact step_on m h1 h2
  | off a b e h1 h2 h3 h4 h5 h6 _ =>
    have e1 : ∀ l, dueF st l = behindF st l := fun l => by rw [dueF, if_neg h5, if_neg h6]
    rw [e1, e1, e]
    exact step_off ms m h1 h2 h3 h4

theorem due_nil (st : Str) : dueF st [] = st := by
  unfold dueF
  have : afterF [] = [] := rfl
  split
  · rw [if_pos (show List.dropWhile other [] = [] from rfl), behind_nil]
  · split
    · rw [this, behind_nil]
    · rw [behind_nil]

theorem app_len {code md : Str} (h : md.length ≤ 20) : (appendF code md).length ≤ code.length + 21 := by
  have h1 : (code ++ Str.ofString "@" ++ md).length ≤ code.length + 21 := by
    rw [Str.length_append, Str.length_append]
    exact Nat.add_le_add_left (Nat.add_le_add_left h 1) _ |> fun x => by rw [Nat.add_assoc]; exact x
  unfold appendF
  split
  · split
    · rw [Str.length_append]
      exact Nat.add_le_add_left (by decide) _
    · split
      · exact Nat.le_add_right _ _
      · exact h1
  · exact h1

theorem st0 : Starts (Str.ofString "ll_LL") := .bare (by decide) (by decide +kernel) (by decide)
theorem st1 : Starts (Str.ofString "ll.ISO8859-15") := .on (Str.ofString "ll") (Str.ofString "ISO8859-15") (by decide) (by decide) (.inl rfl) (by decide +kernel) (.inl (by decide +kernel)) (by decide)
theorem st2 : Starts (Str.ofString "ll.UTF-8") := .on (Str.ofString "ll") (Str.ofString "UTF-8") (by decide) (by decide) (.inr rfl) (by decide +kernel) (.inr (by decide +kernel)) (by decide)
theorem st3 : Starts (Str.ofString "ll.KOI8-R") := .off (Str.ofString "ll") (Str.ofString "KOI8-R") (by decide) (by decide) (by decide) (by decide) (by decide) (by decide +kernel) (by decide +kernel) (by decide)
theorem st4 : Starts (Str.ofString "ll.utf-8") := .off (Str.ofString "ll") (Str.ofString "utf-8") (by decide) (by decide) (by decide) (by decide) (by decide) (by decide +kernel) (by decide +kernel) (by decide)
theorem st5 : Starts (Str.ofString "ll.q.UTF-8") := .off (Str.ofString "ll") (Str.ofString "q.UTF-8") (by decide) (by decide) (by decide) (by decide) (by decide) (by decide +kernel) (by decide +kernel) (by decide)
theorem st6 : Starts (Str.ofString "ll.ISO8859-15.q") := .off (Str.ofString "ll") (Str.ofString "ISO8859-15.q") (by decide) (by decide) (by decide) (by decide) (by decide) (by decide +kernel) (by decide +kernel) (by decide)
theorem st7 : Starts (Str.ofString "ll.UTF-8@latin") := .off (Str.ofString "ll") (Str.ofString "UTF-8@latin") (by decide) (by decide) (by decide) (by decide) (by decide) (by decide +kernel) (by decide +kernel) (by decide)
theorem st8 : Starts (Str.ofString "") := .bare (by decide) (by decide +kernel) (by decide)
theorem st9 : Starts (Str.ofString ".ISO8859-15") := .on (Str.ofString "") (Str.ofString "ISO8859-15") (by decide) (by decide) (.inl rfl) (by decide +kernel) (.inl (by decide +kernel)) (by decide)
theorem st10 : Starts (Str.ofString "ll.") := .off (Str.ofString "ll") (Str.ofString "") (by decide) (by decide) (by decide) (by decide) (by decide) (by decide +kernel) (by decide +kernel) (by decide)
theorem st11 : Starts (Str.ofString "ll.ISO8859") := .off (Str.ofString "ll") (Str.ofString "ISO8859") (by decide) (by decide) (by decide) (by decide) (by decide) (by decide +kernel) (by decide +kernel) (by decide)
theorem starts_all {t0 t1 t2 t3 t4 t5 t6 t7 t8 t9 t10 t11 : Tok} : AllS Starts [.str (Str.ofString "ll_LL") t0, .str (Str.ofString "ll.ISO8859-15") t1, .str (Str.ofString "ll.UTF-8") t2, .str (Str.ofString "ll.KOI8-R") t3, .str (Str.ofString "ll.utf-8") t4, .str (Str.ofString "ll.q.UTF-8") t5, .str (Str.ofString "ll.ISO8859-15.q") t6, .str (Str.ofString "ll.UTF-8@latin") t7, .str (Str.ofString "") t8, .str (Str.ofString ".ISO8859-15") t9, .str (Str.ofString "ll.") t10, .str (Str.ofString "ll.ISO8859") t11] :=
  ⟨⟨_, _, rfl, st0⟩, ⟨_, _, rfl, st1⟩, ⟨_, _, rfl, st2⟩, ⟨_, _, rfl, st3⟩, ⟨_, _, rfl, st4⟩, ⟨_, _, rfl, st5⟩, ⟨_, _, rfl, st6⟩, ⟨_, _, rfl, st7⟩, ⟨_, _, rfl, st8⟩, ⟨_, _, rfl, st9⟩, ⟨_, _, rfl, st10⟩, ⟨_, _, rfl, st11⟩, trivial⟩

/-- m and a number below 9973 -/
theorem num_good {n : Int} (h0 : 0 ≤ n) (h1 : n < 9973) : Good (Str.ofString "m" ++ Str.ofString (toString n)) := by
  obtain ⟨k, rfl⟩ := Int.eq_ofNat_of_zero_le h0
  have hk : k < 10 ^ 4 := Nat.lt_trans (Int.ofNat_lt.mp (show ((k : Nat) : Int) < ((9973 : Nat) : Int) from h1)) (by decide)
  have e : (Str.ofString (toString ((k : Nat) : Int))).cps.toList = (Nat.toDigits 10 k).map Char.toNat := by
    have := text_ofNat k
    exact congrArg (fun z : Str => z.cps.toList) this
  constructor
  · have hl := digits10_le (k := 4) (by decide) hk
    have e2 : (Str.ofString (toString ((k : Nat) : Int))).length = (Nat.toDigits 10 k).length := by
      show (Str.ofString (toString ((k : Nat) : Int))).cps.size = _
      rw [← Array.length_toList, e, List.length_map]
    have e3 : (Str.ofString "m").length = 1 := by decide
    rw [Str.length_append, e2, e3]
    exact Nat.le_trans (Nat.add_le_add_left hl 1) (by decide)
  · rw [mem_app, e]
    rintro (h | h)
    · exact absurd h (by decide)
    · obtain ⟨c, hc, hc2⟩ := List.mem_map.mp h
      have hd := Nat.isDigit_of_mem_toDigits (b := 10) (by decide) (by decide) hc
      have : c = '.' := by
        apply Char.ext
        apply UInt32.toNat_inj.mp
        exact hc2
      subst this
      exact absurd hd (by decide)

/-- what holds between the turns -/
noncomputable def Inv (st : Str) (pre : List Int) (nm : Str) (ms : List Str) : Prop := Starts st ∧ nm = dueF st ms ∧ ms.length = pre.length ∧ (∀ y ∈ ms, Good y) ∧ nm.length ≤ 100 + 21 * pre.length

theorem inv_start {st : Str} (h : Starts st) : Inv st [] st [] := ⟨h, (due_nil _).symm, rfl, (fun _ hy => nomatch hy), h.len⟩

section
variable {st : Str} {pre : List Int} {nm md : Str} {ms : List Str}
theorem inv_len (h : Inv st pre nm ms) (hp : pre.length ≤ 65) : nm.length ≤ 5000 :=
  Nat.le_trans h.2.2.2.2 (Nat.le_trans (Nat.add_le_add_left (Nat.mul_le_mul_left 21 hp) 100) (by decide))
theorem inv_enc (h : Inv st pre nm ms) : encF nm ≠ Str.ofString "ISO8859-1" := by
  rw [h.2.1]
  exact (step_all h.1 euroT h.2.2.2.1).2
theorem inv_eq (h : Inv st pre nm ms) (md : Str) : appendF nm md = dueF st (ms ++ [md]) := by
  rw [h.2.1]
  exact (step_all h.1 md h.2.2.2.1).1
theorem inv_turn {n : Int} (h : Inv st pre nm ms) (hg : Good md) : Inv st (pre ++ [n]) (appendF nm md) (ms ++ [md]) := by
  refine ⟨h.1, inv_eq h md, by rw [List.length_append, List.length_append, h.2.2.1]; rfl, fun y hy => ?_, ?_⟩
  · rcases List.mem_append.mp hy with hy | hy
    · exact h.2.2.2.1 y hy
    · rw [List.mem_singleton.mp hy]; exact hg
  · rw [List.length_append]
    exact Nat.le_trans (app_len hg.1) (Nat.add_le_add_right h.2.2.2.2 21)
theorem inv_size (h : Inv st pre nm ms) (hp : pre.length ≤ 65) : (ms ++ [md]).length ≤ 100 := by
  rw [List.length_append, h.2.2.1]
  exact Nat.le_trans (Nat.add_le_add_right hp 1) (by decide)
theorem inv_each (h : Inv st pre nm ms) (hg : Good md) : ∀ x ∈ ms ++ [md], x.length ≤ 20 := by
  intro y hy
  rcases List.mem_append.mp hy with hy | hy
  · exact (h.2.2.2.1 y hy).1
  · rw [List.mem_singleton.mp hy]; exact hg.1
theorem inv_room {us : List Value} (hs : StrsAre us ms) (h : Inv st pre nm ms) (hp : pre.length ≤ 65) : us.toArray.size ≤ sizeLine := by
  rw [List.size_toArray, strsAre_len hs, h.2.2.1]
  exact Nat.le_trans hp (by decide)
theorem inv_st (h : Inv st pre nm ms) : st.length ≤ 100 := h.1.len
end

theorem pre_le {w pre post : List Int} {n : Int} (h : List.drop 1 (List.take 63 w ++ [0, 0, 0]) = pre ++ n :: post) : pre.length ≤ 65 := by
  have h1 : pre.length < (pre ++ n :: post).length := by rw [List.length_append]; exact Nat.lt_add_of_pos_right (Nat.succ_pos _)
  rw [← h, List.length_drop, List.length_append] at h1
  exact Nat.le_of_lt (Nat.lt_of_lt_of_le h1 (Nat.sub_le_sub_right (Nat.add_le_add_right (List.length_take_le 63 w) 3) 1))

theorem fmod_num (n : Int) : Good (Str.ofString "m" ++ Str.ofString (toString (n.fmod 9973))) := by
  refine num_good ?_ ?_
  · rw [Int.fmod_eq_emod_of_nonneg _ (by decide)]; exact Int.emod_nonneg _ (by decide)
  · rw [Int.fmod_eq_emod_of_nonneg _ (by decide)]; exact Int.emod_lt_of_pos _ (by decide)

theorem good_all {n : Int} {t0 t1 t2 t3 t4 t5 t6 t7 : Tok} : AllS Good [.str (Str.ofString "euro") t0, .str (Str.ofString "latin") t1, .str (Str.ofString "euro") t2, .str (Str.ofString "EURO") t3, .str (Str.ofString "") t4, .str (Str.ofString "euro@q") t5, .str (Str.ofString "m" ++ Str.ofString (toString (n.fmod 9973))) t6, .str (Str.ofString "@") t7] :=
  ⟨⟨_, _, rfl, by decide, by decide⟩, ⟨_, _, rfl, by decide, by decide⟩, ⟨_, _, rfl, by decide, by decide⟩, ⟨_, _, rfl, by decide, by decide⟩, ⟨_, _, rfl, by decide, by decide⟩, ⟨_, _, rfl, by decide, by decide⟩, ⟨_, _, rfl, fmod_num n⟩, ⟨_, _, rfl, by decide, by decide⟩, trivial⟩

theorem news_drop {h₀ h : Heap} {L : Addr} {p : Addr × Obj} {l : List (Addr × Obj)} (N : News h₀ L h (p :: l)) : News h₀ L h l := fun q hq => N q (.tail _ hq)
theorem news_only {h₀ h : Heap} {L : Addr} {p : Addr × Obj} {l : List (Addr × Obj)} (N : News h₀ L h (p :: l)) : News h₀ L h [p] := fun q hq => N q (List.mem_singleton.mp hq ▸ .head _)
theorem news_two {h₀ h : Heap} {L : Addr} {p q : Addr × Obj} {l : List (Addr × Obj)} (N : News h₀ L h (p :: q :: l)) : News h₀ L h [p, q] := fun r hr => N r (by
  rcases List.mem_cons.mp hr with rfl | hr
  · exact .head _
  · rw [List.mem_singleton.mp hr]; exact .tail _ (.head _))

theorem ne_known {prog : Program} {w : World} {A : Around} {E : Value → Shared → Prop} {s : Shared} {x y : Str} {t u : Tok} {Q : Value → Shared → Prop} (e : x = y) (h : Q (.bool false) s) :
    wpAny (model prog w) A (compareOp .NotEq (.str x t) (.str y u)) Q E s := by
  subst e
  refine PyProof.Rows.ne_str ?_
  have e : (x != x) = false := by simp
  rw [e]
  exact h

/-- what a call of the def gives, over any frame and ledger -/
def BehindC (w : World) (K : Frag) (p : Program) (loose : List Str) (mean : ExcName → Option Value) (mg mb : Str → Option Value) : Prop :=
  ∀ {nm : Str} {tn : Tok} {l : Addr} {us : List Value} {ms : List Str} {c : Nat} {dp un : Nat} {gd : Option (List Code)} {cn : Str} {cs : Scope} {a : Addr} {ccd : Value} {cl : List (Str × Addr)} {outer : List Env} {A₀ : Around} {base h₀ : Heap} {L : Addr} {m : Str → Option Value} {news : List (Addr × Obj)} {s : Shared} {Q E : Value → Shared → Prop},
    (Below A₀ base outer h₀) →
    (Fr h₀ L s.heap m) →
    (K.In h₀) →
    (News h₀ L s.heap news) →
    (Top p loose mean mg mb h₀) →
    (cs.kind = .function) →
    ((l, W.listOf us.toArray c) ∈ news) →
    (StrsAre us ms) →
    (nm.length ≤ 5000) →
    (ms.length ≤ 100) →
    (∀ x ∈ ms, x.length ≤ 20) →
    (dp + 2 < recursionLimit) →
    (un + 200 < cLine) →
    (∀ t h' tk', Fr h₀ L h' m → News h₀ L h' news → Q (.str (behindF nm ms) t) { s with heap := h', toks := tk' }) →
    wpAny (model Challenge.rw_dm0207_01.row.prog w) (ktrTop dp un gd cn cs L a ccd cl outer) (call (.ref 230) [.str nm tn, .ref l]) Q E s

/-- what a call of the def gives, over any frame and ledger -/
def AfterC (w : World) (K : Frag) (p : Program) (loose : List Str) (mean : ExcName → Option Value) (mg mb : Str → Option Value) : Prop :=
  ∀ {l : Addr} {us : List Value} {ms : List Str} {c : Nat} {dp un : Nat} {gd : Option (List Code)} {cn : Str} {cs : Scope} {a : Addr} {ccd : Value} {cl : List (Str × Addr)} {outer : List Env} {A₀ : Around} {base h₀ : Heap} {L : Addr} {m : Str → Option Value} {news : List (Addr × Obj)} {s : Shared} {Q E : Value → Shared → Prop},
    (Below A₀ base outer h₀) →
    (Fr h₀ L s.heap m) →
    (K.In h₀) →
    (News h₀ L s.heap news) →
    (Top p loose mean mg mb h₀) →
    (cs.kind = .function) →
    ((l, W.listOf us.toArray c) ∈ news) →
    (StrsAre us ms) →
    (ms.length ≤ 100) →
    (dp + 2 < recursionLimit) →
    (un + 200 < cLine) →
    (∀ D vs n h' tk', Fr h₀ L h' m → News h₀ L h' ((D, W.listOf vs.toArray n) :: news) → StrsAre vs (afterF ms) → Q (.ref D) { s with heap := h', toks := tk' }) →
    wpAny (model Challenge.rw_dm0207_01.row.prog w) (ktrTop dp un gd cn cs L a ccd cl outer) (call (.ref 235) [.ref l]) Q E s

/-- what a call of the def gives, over any frame and ledger -/
def AppendC (w : World) (K : Frag) (p : Program) (loose : List Str) (mean : ExcName → Option Value) (mg mb : Str → Option Value) : Prop :=
  ∀ {code md : Str} {tc tm : Tok} {dp un : Nat} {gd : Option (List Code)} {cn : Str} {cs : Scope} {a : Addr} {ccd : Value} {cl : List (Str × Addr)} {outer : List Env} {A₀ : Around} {base h₀ : Heap} {L : Addr} {m : Str → Option Value} {news : List (Addr × Obj)} {s : Shared} {Q E : Value → Shared → Prop},
    (Below A₀ base outer h₀) →
    (Fr h₀ L s.heap m) →
    (K.In h₀) →
    (News h₀ L s.heap news) →
    (Top p loose mean mg mb h₀) →
    (cs.kind = .function) →
    (code.length ≤ 5000) →
    (md.length ≤ 20) →
    (encF code ≠ Str.ofString "ISO8859-1") →
    (dp + 2 < recursionLimit) →
    (un + 200 < cLine) →
    (∀ t h' tk', Fr h₀ L h' m → News h₀ L h' news → Q (.str (appendF code md) t) { s with heap := h', toks := tk' }) →
    wpAny (model Challenge.rw_dm0207_01.row.prog w) (ktrTop dp un gd cn cs L a ccd cl outer) (call (.ref 35) [.str code tc, .str md tm]) Q E s

/-- what a call of the def gives, over any frame and ledger -/
def DueC (w : World) (K : Frag) (p : Program) (loose : List Str) (mean : ExcName → Option Value) (mg mb : Str → Option Value) : Prop :=
  ∀ {nm : Str} {tn : Tok} {l : Addr} {us : List Value} {ms : List Str} {c : Nat} {dp un : Nat} {gd : Option (List Code)} {cn : Str} {cs : Scope} {a : Addr} {ccd : Value} {cl : List (Str × Addr)} {outer : List Env} {A₀ : Around} {base h₀ : Heap} {L : Addr} {m : Str → Option Value} {news : List (Addr × Obj)} {s : Shared} {Q E : Value → Shared → Prop},
    (Below A₀ base outer h₀) →
    (Fr h₀ L s.heap m) →
    (K.In h₀) →
    (News h₀ L s.heap news) →
    (Top p loose mean mg mb h₀) →
    (cs.kind = .function) →
    ((l, W.listOf us.toArray c) ∈ news) →
    (StrsAre us ms) →
    (nm.length ≤ 100) →
    (ms.length ≤ 100) →
    (∀ x ∈ ms, x.length ≤ 20) →
    (dp + 10 < recursionLimit) →
    (un + 300 < cLine) →
    (∀ t h' tk', Fr h₀ L h' m → News h₀ L h' news → Q (.str (dueF nm ms) t) { s with heap := h', toks := tk' }) →
    wpAny (model Challenge.rw_dm0207_01.row.prog w) (ktrTop dp un gd cn cs L a ccd cl outer) (call (.ref 240) [.str nm tn, .ref l]) Q E s

/-- a word of the text's own objects, shown once behind the head -/
theorem cut_of {view : Program} {loose : List Str} {XP : (Str → Option Value) → Heap → Prop} {K : Params → Frag} {as : List Addr} {e : ∀ P, as = (K P).map (·.1)} {r : RowW} {d : DefRec} {kwd : List (Str × Expr)} {run : Value → List Value → Sem Value}
    (P : World → Frag → Program → List Str → (ExcName → Option Value) → (Str → Option Value) → (Str → Option Value) → Prop)
    (c : ∀ w mean mg mb, P w (K w.params) view (looseW view loose) mean mg mb)
    (k : (∀ w mean mg mb, P w (K w.params) view (looseW view loose) mean mg mb) → WalkO view loose XP (kHook K as e).says r d kwd run) :
    WalkO view loose XP (kHook K as e).says r d kwd run := k c

end
end Mine
open Mine
set_option maxRecDepth 100000 in
set_option maxHeartbeats 0 in
theorem PySem.Challenge.cw_dm0207_01_holds : PySem.Challenge.rw_dm0207_01.Holds := by
  w_on
  o_law
  k_head
  (case hw => w_witness2)
  refine cut_of BehindC (fun w mean mg mb => ?_) (fun HB => ?_)
  · intro nm tn l us ms c dp un gd cn cs a ccd cl outer A₀ base h₀ L m news s Q E B F X N T hk hm hs hn hlen hms hd hu ret
    refine wpAny_call ?_
    k_dflt (refine' code_def (binds := [(Str.ofString "name", Value.str nm tn), (Str.ofString "modifiers", Value.ref l)]) ?k1 ?k2 ?k3 ?k4 ?k5 ?kA ?kF ?kK ?k6 ?k7 ?k8 ?k9 ?kB ?_ ?c2 ?c3 ?c4 ?c5
            (case kA => exact rfl)
            (case kF => exact rfl)
            (case kK => assumption)
            (case k1 => k_asm)
            (case k2 => k_asm)
            (case k3 => k_asm)
            (case k4 => k_asm)
            (case k5 => k_asm)
            (case k6 => k_is)
            (case k7 => k_is)
            (case k8 => exact room0 hd)
            (case k9 => exact BindsTo.of_eq rfl)
            (case c5 => decide)
            (case kB => exact locs rfl)
            (case c2 => exact rfl)
            (case c3 => exact rfl)
            (case c4 => exact rfl)
            k_whole
            intro g' L' h' FG' F' N' B' X' T'
            (try dsimp only)
            (try k_lift B')
            (try k_fold))
    w_on
    repeat' ((fail_if_success (with_reducible show wpAny _ _ (subscriptTail _ (PySem.Expr.Slice _ _ _ _) (Value.ref _) _) _ _ _)); (fail_if_success (with_reducible show wpAny _ _ (subscriptTail _ (PySem.Expr.Name _ _) (Value.ref _) _) _ _ _)); (fail_if_success (with_reducible show wpAny _ _ (PySem.call (Value.ref _) _) _ _ _)); (fail_if_success (with_reducible show wpAny _ _ (PySem.call (Value.builtin "len") _) _ _ _)); (fail_if_success (with_reducible show wpAny _ _ (PySem.call (Value.builtin "str.join") _) _ _ _)); (fail_if_success (with_reducible show wpAny _ _ (PySem.eval (PySem.Expr.ListComp _ _ _ _) _) _ _ _)); (fail_if_success (with_reducible show wpAny _ _ (PySem.exec (PySem.Stmt.Assign _ (PySem.Expr.ListComp _ _ _ _) _) _) _ _ _)); (fail_if_success (with_reducible show LCt.CompSrcT _ _ _ _ _ _ _ _ _ _ _ _ _ _ _)); (fail_if_success (with_reducible show LCg.CompSrc _ _ _ _ _ _ _ _ _ _ _ _ _ _)); (fail_if_success (with_reducible show wpAny _ _ (compareOp CmpOp.Eq (Value.ref _) (Value.ref _)) _ _ _)); (fail_if_success (with_reducible show wpAny _ _ (compareOp CmpOp.NotEq (Value.ref _) (Value.ref _)) _ _ _)); (fail_if_success (with_reducible show wpAny _ _ (PySem.call (Value.builtin "str.count") _) _ _ _)); first | (k_unfold; (try dsimp only)) | (k_end; kc_close) | walk1 | (dsimp only; walk1) | (leave1; walk_say "STEP leave1"; (try dsimp only)) | fail "no step")
    k_here
    k_dflt (refine LCg.ListComp_U (F₀ := by k_asm) (by with_unfolding_all rfl) (by decide) (by rfl) (by decide) (by rfl) ?_)
    repeat' ((fail_if_success (with_reducible show wpAny _ _ (subscriptTail _ (PySem.Expr.Slice _ _ _ _) (Value.ref _) _) _ _ _)); (fail_if_success (with_reducible show wpAny _ _ (subscriptTail _ (PySem.Expr.Name _ _) (Value.ref _) _) _ _ _)); (fail_if_success (with_reducible show wpAny _ _ (PySem.call (Value.ref _) _) _ _ _)); (fail_if_success (with_reducible show wpAny _ _ (PySem.call (Value.builtin "len") _) _ _ _)); (fail_if_success (with_reducible show wpAny _ _ (PySem.call (Value.builtin "str.join") _) _ _ _)); (fail_if_success (with_reducible show wpAny _ _ (PySem.eval (PySem.Expr.ListComp _ _ _ _) _) _ _ _)); (fail_if_success (with_reducible show wpAny _ _ (PySem.exec (PySem.Stmt.Assign _ (PySem.Expr.ListComp _ _ _ _) _) _) _ _ _)); (fail_if_success (with_reducible show LCt.CompSrcT _ _ _ _ _ _ _ _ _ _ _ _ _ _ _)); (fail_if_success (with_reducible show LCg.CompSrc _ _ _ _ _ _ _ _ _ _ _ _ _ _)); (fail_if_success (with_reducible show wpAny _ _ (compareOp CmpOp.Eq (Value.ref _) (Value.ref _)) _ _ _)); (fail_if_success (with_reducible show wpAny _ _ (compareOp CmpOp.NotEq (Value.ref _) (Value.ref _)) _ _ _)); (fail_if_success (with_reducible show wpAny _ _ (PySem.call (Value.builtin "str.count") _) _ _ _)); first | (k_unfold; (try dsimp only)) | (k_end; kc_close) | walk1 | (dsimp only; walk1) | (leave1; walk_say "STEP leave1"; (try dsimp only)) | fail "no step")
    refine LCg.CompSrc.ledger (by rfl) (by k_asm) (by k_asm) (by assumption) (lineUs (strsAre_len hs) hlen) ?_
    intro g2
    refine smap_rest (fun y => Str.ofString "@" ++ y) hs (Or.inr ⟨_, hm, rfl, _, rfl⟩) ?_ ?_
    · intro y t I oI C oC D m₂ ys h tk E' hy hC hx F2 N2 off ne
      have hyl := hms y hy
      repeat' ((fail_if_success (with_reducible show wpAny _ _ (subscriptTail _ (PySem.Expr.Slice _ _ _ _) (Value.ref _) _) _ _ _)); (fail_if_success (with_reducible show wpAny _ _ (subscriptTail _ (PySem.Expr.Name _ _) (Value.ref _) _) _ _ _)); (fail_if_success (with_reducible show wpAny _ _ (PySem.call (Value.ref _) _) _ _ _)); (fail_if_success (with_reducible show wpAny _ _ (PySem.call (Value.builtin "len") _) _ _ _)); (fail_if_success (with_reducible show wpAny _ _ (PySem.call (Value.builtin "str.join") _) _ _ _)); (fail_if_success (with_reducible show wpAny _ _ (PySem.eval (PySem.Expr.ListComp _ _ _ _) _) _ _ _)); (fail_if_success (with_reducible show wpAny _ _ (PySem.exec (PySem.Stmt.Assign _ (PySem.Expr.ListComp _ _ _ _) _) _) _ _ _)); (fail_if_success (with_reducible show LCt.CompSrcT _ _ _ _ _ _ _ _ _ _ _ _ _ _ _)); (fail_if_success (with_reducible show LCg.CompSrc _ _ _ _ _ _ _ _ _ _ _ _ _ _)); (fail_if_success (with_reducible show wpAny _ _ (compareOp CmpOp.Eq (Value.ref _) (Value.ref _)) _ _ _)); (fail_if_success (with_reducible show wpAny _ _ (compareOp CmpOp.NotEq (Value.ref _) (Value.ref _)) _ _ _)); (fail_if_success (with_reducible show wpAny _ _ (PySem.call (Value.builtin "str.count") _) _ _ _)); first | (k_unfold; (try dsimp only)) | (k_end; kc_close) | walk1 | (dsimp only; walk1) | (leave1; walk_say "STEP leave1"; (try dsimp only)) | fail "no step")
    · intro ys hys
      have htl := tails_len hms
      repeat' ((fail_if_success (with_reducible show wpAny _ _ (subscriptTail _ (PySem.Expr.Slice _ _ _ _) (Value.ref _) _) _ _ _)); (fail_if_success (with_reducible show wpAny _ _ (subscriptTail _ (PySem.Expr.Name _ _) (Value.ref _) _) _ _ _)); (fail_if_success (with_reducible show wpAny _ _ (PySem.call (Value.ref _) _) _ _ _)); (fail_if_success (with_reducible show wpAny _ _ (PySem.call (Value.builtin "len") _) _ _ _)); (fail_if_success (with_reducible show wpAny _ _ (PySem.call (Value.builtin "str.join") _) _ _ _)); (fail_if_success (with_reducible show wpAny _ _ (PySem.eval (PySem.Expr.ListComp _ _ _ _) _) _ _ _)); (fail_if_success (with_reducible show wpAny _ _ (PySem.exec (PySem.Stmt.Assign _ (PySem.Expr.ListComp _ _ _ _) _) _) _ _ _)); (fail_if_success (with_reducible show LCt.CompSrcT _ _ _ _ _ _ _ _ _ _ _ _ _ _ _)); (fail_if_success (with_reducible show LCg.CompSrc _ _ _ _ _ _ _ _ _ _ _ _ _ _)); (fail_if_success (with_reducible show wpAny _ _ (compareOp CmpOp.Eq (Value.ref _) (Value.ref _)) _ _ _)); (fail_if_success (with_reducible show wpAny _ _ (compareOp CmpOp.NotEq (Value.ref _) (Value.ref _)) _ _ _)); (fail_if_success (with_reducible show wpAny _ _ (PySem.call (Value.builtin "str.count") _) _ _ _)); first | (k_unfold; (try dsimp only)) | (k_end; kc_close) | walk1 | (dsimp only; walk1) | (leave1; walk_say "STEP leave1"; (try dsimp only)) | fail "no step")
      rename News _ _ _ _ => NJ
      refine join_list (D := _) (items := ys.toArray) (News.isList NJ (List.mem_cons_self)) (by simpa using hys) (join_fit hms hlen) ?_
      intro t' k
      rw [join_tails ms]
      repeat' ((fail_if_success (with_reducible show wpAny _ _ (subscriptTail _ (PySem.Expr.Slice _ _ _ _) (Value.ref _) _) _ _ _)); (fail_if_success (with_reducible show wpAny _ _ (subscriptTail _ (PySem.Expr.Name _ _) (Value.ref _) _) _ _ _)); (fail_if_success (with_reducible show wpAny _ _ (PySem.call (Value.ref _) _) _ _ _)); (fail_if_success (with_reducible show wpAny _ _ (PySem.call (Value.builtin "len") _) _ _ _)); (fail_if_success (with_reducible show wpAny _ _ (PySem.call (Value.builtin "str.join") _) _ _ _)); (fail_if_success (with_reducible show wpAny _ _ (PySem.eval (PySem.Expr.ListComp _ _ _ _) _) _ _ _)); (fail_if_success (with_reducible show wpAny _ _ (PySem.exec (PySem.Stmt.Assign _ (PySem.Expr.ListComp _ _ _ _) _) _) _ _ _)); (fail_if_success (with_reducible show LCt.CompSrcT _ _ _ _ _ _ _ _ _ _ _ _ _ _ _)); (fail_if_success (with_reducible show LCg.CompSrc _ _ _ _ _ _ _ _ _ _ _ _ _ _)); (fail_if_success (with_reducible show wpAny _ _ (compareOp CmpOp.Eq (Value.ref _) (Value.ref _)) _ _ _)); (fail_if_success (with_reducible show wpAny _ _ (compareOp CmpOp.NotEq (Value.ref _) (Value.ref _)) _ _ _)); (fail_if_success (with_reducible show wpAny _ _ (PySem.call (Value.builtin "str.count") _) _ _ _)); first | (k_unfold; (try dsimp only)) | (k_end; kc_close) | walk1 | (dsimp only; walk1) | (leave1; walk_say "STEP leave1"; (try dsimp only)) | fail "no step")
      rename Fr h₀ L _ _ => kF9
      rename News h₀ L _ _ => kN9
      exact ret _ _ _ kF9 (fun p hp => kN9 p (List.mem_cons_of_mem _ hp))
  refine cut_of AfterC (fun w mean mg mb => ?_) (fun HA => ?_)
  · intro l us ms c dp un gd cn cs a ccd cl outer A₀ base h₀ L m news s Q E B F X N T hk hm hs hlen hd hu ret
    have hul := strsAre_len hs
    refine wpAny_call ?_
    k_dflt (refine' code_defC (binds := [(Str.ofString "modifiers", Value.ref l)]) ?k1 ?k2 ?k3 ?k4 ?k5 ?kA ?kF ?kK ?k6 ?k7 ?k8 ?k9 ?kB ?kD ?_ ?c2 ?c3 ?c4
            (case kA => exact rfl)
            (case kF => exact rfl)
            (case kK => assumption)
            (case k1 => k_asm)
            (case k2 => k_asm)
            (case k3 => k_asm)
            (case k4 => k_asm)
            (case k5 => k_asm)
            (case k6 => k_is)
            (case k7 => k_is)
            (case k8 => exact room0 hd)
            (case k9 => exact BindsTo.of_eq rfl)
            (case kB => exact rfl)
            (case kD => decide +kernel)
            (case c2 => exact rfl)
            (case c3 => exact rfl)
            (case c4 => exact rfl)
            k_whole
            intro g' L' h' tk' cells' FG' F' N' Y' B' X' T' l1
            (try k_lt l1)
            k_cells Y'
            (replace F' : Fr g' L' h' (fun _ => none) := by with_unfolding_all exact F')
            (try simp only [List.cons_append, List.nil_append] at N')
            (try dsimp only)
            (try k_lift B')
            (try k_fold))
    w_on
    repeat' ((fail_if_success (with_reducible show wpAny _ _ (subscriptTail _ (PySem.Expr.Slice _ _ _ _) (Value.ref _) _) _ _ _)); (fail_if_success (with_reducible show wpAny _ _ (subscriptTail _ (PySem.Expr.Name _ _) (Value.ref _) _) _ _ _)); (fail_if_success (with_reducible show wpAny _ _ (PySem.call (Value.ref _) _) _ _ _)); (fail_if_success (with_reducible show wpAny _ _ (PySem.call (Value.builtin "len") _) _ _ _)); (fail_if_success (with_reducible show wpAny _ _ (PySem.call (Value.builtin "str.join") _) _ _ _)); (fail_if_success (with_reducible show wpAny _ _ (PySem.eval (PySem.Expr.ListComp _ _ _ _) _) _ _ _)); (fail_if_success (with_reducible show wpAny _ _ (PySem.exec (PySem.Stmt.Assign _ (PySem.Expr.ListComp _ _ _ _) _) _) _ _ _)); (fail_if_success (with_reducible show LCt.CompSrcT _ _ _ _ _ _ _ _ _ _ _ _ _ _ _)); (fail_if_success (with_reducible show LCg.CompSrc _ _ _ _ _ _ _ _ _ _ _ _ _ _)); (fail_if_success (with_reducible show wpAny _ _ (compareOp CmpOp.Eq (Value.ref _) (Value.ref _)) _ _ _)); (fail_if_success (with_reducible show wpAny _ _ (compareOp CmpOp.NotEq (Value.ref _) (Value.ref _)) _ _ _)); (fail_if_success (with_reducible show wpAny _ _ (PySem.call (Value.builtin "str.count") _) _ _ _)); first | (k_unfold; (try dsimp only)) | (k_end; kc_close) | walk1 | (dsimp only; walk1) | (leave1; walk_say "STEP leave1"; (try dsimp only)) | fail "no step")
    k_here
    k_dflt (refine LCt.Assign_ListComp_T (F₀ := by k_asm) (by rfl) (by with_unfolding_all rfl) (by with_unfolding_all rfl) (by decide) (by rfl) (by decide) (by rfl) (by rfl) (by rfl) ?_)
    repeat' ((fail_if_success (with_reducible show wpAny _ _ (subscriptTail _ (PySem.Expr.Slice _ _ _ _) (Value.ref _) _) _ _ _)); (fail_if_success (with_reducible show wpAny _ _ (subscriptTail _ (PySem.Expr.Name _ _) (Value.ref _) _) _ _ _)); (fail_if_success (with_reducible show wpAny _ _ (PySem.call (Value.ref _) _) _ _ _)); (fail_if_success (with_reducible show wpAny _ _ (PySem.call (Value.builtin "len") _) _ _ _)); (fail_if_success (with_reducible show wpAny _ _ (PySem.call (Value.builtin "str.join") _) _ _ _)); (fail_if_success (with_reducible show wpAny _ _ (PySem.eval (PySem.Expr.ListComp _ _ _ _) _) _ _ _)); (fail_if_success (with_reducible show wpAny _ _ (PySem.exec (PySem.Stmt.Assign _ (PySem.Expr.ListComp _ _ _ _) _) _) _ _ _)); (fail_if_success (with_reducible show LCt.CompSrcT _ _ _ _ _ _ _ _ _ _ _ _ _ _ _)); (fail_if_success (with_reducible show LCg.CompSrc _ _ _ _ _ _ _ _ _ _ _ _ _ _)); (fail_if_success (with_reducible show wpAny _ _ (compareOp CmpOp.Eq (Value.ref _) (Value.ref _)) _ _ _)); (fail_if_success (with_reducible show wpAny _ _ (compareOp CmpOp.NotEq (Value.ref _) (Value.ref _)) _ _ _)); (fail_if_success (with_reducible show wpAny _ _ (PySem.call (Value.builtin "str.count") _) _ _ _)); first | (k_unfold; (try dsimp only)) | (k_end; kc_close) | walk1 | (dsimp only; walk1) | (leave1; walk_say "STEP leave1"; (try dsimp only)) | fail "no step")
    rename News g' L' _ _ => N2
    refine kst_len N2 (List.mem_cons_of_mem _ hm) hul (fit63 hlen) ?_
    repeat' ((fail_if_success (with_reducible show wpAny _ _ (subscriptTail _ (PySem.Expr.Slice _ _ _ _) (Value.ref _) _) _ _ _)); (fail_if_success (with_reducible show wpAny _ _ (subscriptTail _ (PySem.Expr.Name _ _) (Value.ref _) _) _ _ _)); (fail_if_success (with_reducible show wpAny _ _ (PySem.call (Value.ref _) _) _ _ _)); (fail_if_success (with_reducible show wpAny _ _ (PySem.call (Value.builtin "len") _) _ _ _)); (fail_if_success (with_reducible show wpAny _ _ (PySem.call (Value.builtin "str.join") _) _ _ _)); (fail_if_success (with_reducible show wpAny _ _ (PySem.eval (PySem.Expr.ListComp _ _ _ _) _) _ _ _)); (fail_if_success (with_reducible show wpAny _ _ (PySem.exec (PySem.Stmt.Assign _ (PySem.Expr.ListComp _ _ _ _) _) _) _ _ _)); (fail_if_success (with_reducible show LCt.CompSrcT _ _ _ _ _ _ _ _ _ _ _ _ _ _ _)); (fail_if_success (with_reducible show LCg.CompSrc _ _ _ _ _ _ _ _ _ _ _ _ _ _)); (fail_if_success (with_reducible show wpAny _ _ (compareOp CmpOp.Eq (Value.ref _) (Value.ref _)) _ _ _)); (fail_if_success (with_reducible show wpAny _ _ (compareOp CmpOp.NotEq (Value.ref _) (Value.ref _)) _ _ _)); (fail_if_success (with_reducible show wpAny _ _ (PySem.call (Value.builtin "str.count") _) _ _ _)); first | (k_unfold; (try dsimp only)) | (k_end; kc_close) | walk1 | (dsimp only; walk1) | (leave1; walk_say "STEP leave1"; (try dsimp only)) | fail "no step")
    refine LCt.CompSrcT.range (n := ms.length) (by rfl) (by k_asm) (by k_asm) (by assumption) (small100 hlen) (size0 _) (line100 hlen) ?_
    intro g2
    refine idx_rest (fun k => !(ms.getD k Str.empty == euroT)) ?_ ?_ ?_
    · intro k t I oI C oC D m₂ ys h tk E' hk hC hx F3 N3 off ne
      repeat' ((fail_if_success (with_reducible show wpAny _ _ (subscriptTail _ (PySem.Expr.Slice _ _ _ _) (Value.ref _) _) _ _ _)); (fail_if_success (with_reducible show wpAny _ _ (subscriptTail _ (PySem.Expr.Name _ _) (Value.ref _) _) _ _ _)); (fail_if_success (with_reducible show wpAny _ _ (PySem.call (Value.ref _) _) _ _ _)); (fail_if_success (with_reducible show wpAny _ _ (PySem.call (Value.builtin "len") _) _ _ _)); (fail_if_success (with_reducible show wpAny _ _ (PySem.call (Value.builtin "str.join") _) _ _ _)); (fail_if_success (with_reducible show wpAny _ _ (PySem.eval (PySem.Expr.ListComp _ _ _ _) _) _ _ _)); (fail_if_success (with_reducible show wpAny _ _ (PySem.exec (PySem.Stmt.Assign _ (PySem.Expr.ListComp _ _ _ _) _) _) _ _ _)); (fail_if_success (with_reducible show LCt.CompSrcT _ _ _ _ _ _ _ _ _ _ _ _ _ _ _)); (fail_if_success (with_reducible show LCg.CompSrc _ _ _ _ _ _ _ _ _ _ _ _ _ _)); (fail_if_success (with_reducible show wpAny _ _ (compareOp CmpOp.Eq (Value.ref _) (Value.ref _)) _ _ _)); (fail_if_success (with_reducible show wpAny _ _ (compareOp CmpOp.NotEq (Value.ref _) (Value.ref _)) _ _ _)); (fail_if_success (with_reducible show wpAny _ _ (PySem.call (Value.builtin "str.count") _) _ _ _)); first | (k_unfold; (try dsimp only)) | (k_end; kc_close) | walk1 | (dsimp only; walk1) | (leave1; walk_say "STEP leave1"; (try dsimp only)) | fail "no step")
      refine item_str (News.isList N3 (.tail _ (.tail _ (.tail _ (.tail _ hm))))) hs hk hlen ?_
      intro t2
      repeat' ((fail_if_success (with_reducible show wpAny _ _ (subscriptTail _ (PySem.Expr.Slice _ _ _ _) (Value.ref _) _) _ _ _)); (fail_if_success (with_reducible show wpAny _ _ (subscriptTail _ (PySem.Expr.Name _ _) (Value.ref _) _) _ _ _)); (fail_if_success (with_reducible show wpAny _ _ (PySem.call (Value.ref _) _) _ _ _)); (fail_if_success (with_reducible show wpAny _ _ (PySem.call (Value.builtin "len") _) _ _ _)); (fail_if_success (with_reducible show wpAny _ _ (PySem.call (Value.builtin "str.join") _) _ _ _)); (fail_if_success (with_reducible show wpAny _ _ (PySem.eval (PySem.Expr.ListComp _ _ _ _) _) _ _ _)); (fail_if_success (with_reducible show wpAny _ _ (PySem.exec (PySem.Stmt.Assign _ (PySem.Expr.ListComp _ _ _ _) _) _) _ _ _)); (fail_if_success (with_reducible show LCt.CompSrcT _ _ _ _ _ _ _ _ _ _ _ _ _ _ _)); (fail_if_success (with_reducible show LCg.CompSrc _ _ _ _ _ _ _ _ _ _ _ _ _ _)); (fail_if_success (with_reducible show wpAny _ _ (compareOp CmpOp.Eq (Value.ref _) (Value.ref _)) _ _ _)); (fail_if_success (with_reducible show wpAny _ _ (compareOp CmpOp.NotEq (Value.ref _) (Value.ref _)) _ _ _)); (fail_if_success (with_reducible show wpAny _ _ (PySem.call (Value.builtin "str.count") _) _ _ _)); first | (k_unfold; (try dsimp only)) | (k_end; kc_close) | walk1 | (dsimp only; walk1) | (leave1; walk_say "STEP leave1"; (try dsimp only)) | fail "no step")
    · intro k t I oI C oC D m₂ ys h tk E' hk hC hx F3 N3 off ne
      repeat' ((fail_if_success (with_reducible show wpAny _ _ (subscriptTail _ (PySem.Expr.Slice _ _ _ _) (Value.ref _) _) _ _ _)); (fail_if_success (with_reducible show wpAny _ _ (subscriptTail _ (PySem.Expr.Name _ _) (Value.ref _) _) _ _ _)); (fail_if_success (with_reducible show wpAny _ _ (PySem.call (Value.ref _) _) _ _ _)); (fail_if_success (with_reducible show wpAny _ _ (PySem.call (Value.builtin "len") _) _ _ _)); (fail_if_success (with_reducible show wpAny _ _ (PySem.call (Value.builtin "str.join") _) _ _ _)); (fail_if_success (with_reducible show wpAny _ _ (PySem.eval (PySem.Expr.ListComp _ _ _ _) _) _ _ _)); (fail_if_success (with_reducible show wpAny _ _ (PySem.exec (PySem.Stmt.Assign _ (PySem.Expr.ListComp _ _ _ _) _) _) _ _ _)); (fail_if_success (with_reducible show LCt.CompSrcT _ _ _ _ _ _ _ _ _ _ _ _ _ _ _)); (fail_if_success (with_reducible show LCg.CompSrc _ _ _ _ _ _ _ _ _ _ _ _ _ _)); (fail_if_success (with_reducible show wpAny _ _ (compareOp CmpOp.Eq (Value.ref _) (Value.ref _)) _ _ _)); (fail_if_success (with_reducible show wpAny _ _ (compareOp CmpOp.NotEq (Value.ref _) (Value.ref _)) _ _ _)); (fail_if_success (with_reducible show wpAny _ _ (PySem.call (Value.builtin "str.count") _) _ _ _)); first | (k_unfold; (try dsimp only)) | (k_end; kc_close) | walk1 | (dsimp only; walk1) | (leave1; walk_say "STEP leave1"; (try dsimp only)) | fail "no step")
    · intro ys hys
      cases hf : (List.range ms.length).filter (fun k => !(ms.getD k Str.empty == euroT)) with
      | nil =>
        rw [hf, List.map_nil] at hys
        have ha := after_nil hf
        clear hf
        repeat' ((fail_if_success (with_reducible show wpAny _ _ (subscriptTail _ (PySem.Expr.Slice _ _ _ _) (Value.ref _) _) _ _ _)); (fail_if_success (with_reducible show wpAny _ _ (subscriptTail _ (PySem.Expr.Name _ _) (Value.ref _) _) _ _ _)); (fail_if_success (with_reducible show wpAny _ _ (PySem.call (Value.ref _) _) _ _ _)); (fail_if_success (with_reducible show wpAny _ _ (PySem.call (Value.builtin "len") _) _ _ _)); (fail_if_success (with_reducible show wpAny _ _ (PySem.call (Value.builtin "str.join") _) _ _ _)); (fail_if_success (with_reducible show wpAny _ _ (PySem.eval (PySem.Expr.ListComp _ _ _ _) _) _ _ _)); (fail_if_success (with_reducible show wpAny _ _ (PySem.exec (PySem.Stmt.Assign _ (PySem.Expr.ListComp _ _ _ _) _) _) _ _ _)); (fail_if_success (with_reducible show LCt.CompSrcT _ _ _ _ _ _ _ _ _ _ _ _ _ _ _)); (fail_if_success (with_reducible show LCg.CompSrc _ _ _ _ _ _ _ _ _ _ _ _ _ _)); (fail_if_success (with_reducible show wpAny _ _ (compareOp CmpOp.Eq (Value.ref _) (Value.ref _)) _ _ _)); (fail_if_success (with_reducible show wpAny _ _ (compareOp CmpOp.NotEq (Value.ref _) (Value.ref _)) _ _ _)); (fail_if_success (with_reducible show wpAny _ _ (PySem.call (Value.builtin "str.count") _) _ _ _)); first | (k_unfold; (try dsimp only)) | (k_end; kc_close) | walk1 | (dsimp only; walk1) | (leave1; walk_say "STEP leave1"; (try dsimp only)) | fail "no step")
        rename News g' L' _ _ => N4
        refine ne_ints_lit (c := false) rfl (News.isList N4 (.tail _ (.head _))) hys (News.isList N4 (.head _)) .nil (unitsEq (by decide) hu) ?_
        repeat' ((fail_if_success (with_reducible show wpAny _ _ (subscriptTail _ (PySem.Expr.Slice _ _ _ _) (Value.ref _) _) _ _ _)); (fail_if_success (with_reducible show wpAny _ _ (subscriptTail _ (PySem.Expr.Name _ _) (Value.ref _) _) _ _ _)); (fail_if_success (with_reducible show wpAny _ _ (PySem.call (Value.ref _) _) _ _ _)); (fail_if_success (with_reducible show wpAny _ _ (PySem.call (Value.builtin "len") _) _ _ _)); (fail_if_success (with_reducible show wpAny _ _ (PySem.call (Value.builtin "str.join") _) _ _ _)); (fail_if_success (with_reducible show wpAny _ _ (PySem.eval (PySem.Expr.ListComp _ _ _ _) _) _ _ _)); (fail_if_success (with_reducible show wpAny _ _ (PySem.exec (PySem.Stmt.Assign _ (PySem.Expr.ListComp _ _ _ _) _) _) _ _ _)); (fail_if_success (with_reducible show LCt.CompSrcT _ _ _ _ _ _ _ _ _ _ _ _ _ _ _)); (fail_if_success (with_reducible show LCg.CompSrc _ _ _ _ _ _ _ _ _ _ _ _ _ _)); (fail_if_success (with_reducible show wpAny _ _ (compareOp CmpOp.Eq (Value.ref _) (Value.ref _)) _ _ _)); (fail_if_success (with_reducible show wpAny _ _ (compareOp CmpOp.NotEq (Value.ref _) (Value.ref _)) _ _ _)); (fail_if_success (with_reducible show wpAny _ _ (PySem.call (Value.builtin "str.count") _) _ _ _)); first | (k_unfold; (try dsimp only)) | (k_end; kc_close) | walk1 | (dsimp only; walk1) | (leave1; walk_say "STEP leave1"; (try dsimp only)) | fail "no step")
        rename Fr h₀ L _ _ => kF9
        rename News h₀ L _ _ => kN9
        refine ret _ [] 0 _ _ kF9 (fun p hp => kN9 p ?_) (by rw [ha]; exact .nil)
        rcases List.mem_cons.mp hp with rfl | hp
        · exact .head _
        · exact .tail _ (.tail _ (.tail _ (.tail _ hp)))
      | cons k r =>
        rw [hf, List.map_cons] at hys
        obtain ⟨hk, ha⟩ := after_cons hf
        clear hf
        generalize (List.map (fun (k : Nat) => (k : Int)) r) = rr at hys
        repeat' ((fail_if_success (with_reducible show wpAny _ _ (subscriptTail _ (PySem.Expr.Slice _ _ _ _) (Value.ref _) _) _ _ _)); (fail_if_success (with_reducible show wpAny _ _ (subscriptTail _ (PySem.Expr.Name _ _) (Value.ref _) _) _ _ _)); (fail_if_success (with_reducible show wpAny _ _ (PySem.call (Value.ref _) _) _ _ _)); (fail_if_success (with_reducible show wpAny _ _ (PySem.call (Value.builtin "len") _) _ _ _)); (fail_if_success (with_reducible show wpAny _ _ (PySem.call (Value.builtin "str.join") _) _ _ _)); (fail_if_success (with_reducible show wpAny _ _ (PySem.eval (PySem.Expr.ListComp _ _ _ _) _) _ _ _)); (fail_if_success (with_reducible show wpAny _ _ (PySem.exec (PySem.Stmt.Assign _ (PySem.Expr.ListComp _ _ _ _) _) _) _ _ _)); (fail_if_success (with_reducible show LCt.CompSrcT _ _ _ _ _ _ _ _ _ _ _ _ _ _ _)); (fail_if_success (with_reducible show LCg.CompSrc _ _ _ _ _ _ _ _ _ _ _ _ _ _)); (fail_if_success (with_reducible show wpAny _ _ (compareOp CmpOp.Eq (Value.ref _) (Value.ref _)) _ _ _)); (fail_if_success (with_reducible show wpAny _ _ (compareOp CmpOp.NotEq (Value.ref _) (Value.ref _)) _ _ _)); (fail_if_success (with_reducible show wpAny _ _ (PySem.call (Value.builtin "str.count") _) _ _ _)); first | (k_unfold; (try dsimp only)) | (k_end; kc_close) | walk1 | (dsimp only; walk1) | (leave1; walk_say "STEP leave1"; (try dsimp only)) | fail "no step")
        rename News g' L' _ _ => N4
        refine ne_ints_lit (c := true) rfl (News.isList N4 (.tail _ (.head _))) hys (News.isList N4 (.head _)) .nil (unitsEq (by decide) hu) ?_
        repeat' ((fail_if_success (with_reducible show wpAny _ _ (subscriptTail _ (PySem.Expr.Slice _ _ _ _) (Value.ref _) _) _ _ _)); (fail_if_success (with_reducible show wpAny _ _ (subscriptTail _ (PySem.Expr.Name _ _) (Value.ref _) _) _ _ _)); (fail_if_success (with_reducible show wpAny _ _ (PySem.call (Value.ref _) _) _ _ _)); (fail_if_success (with_reducible show wpAny _ _ (PySem.call (Value.builtin "len") _) _ _ _)); (fail_if_success (with_reducible show wpAny _ _ (PySem.call (Value.builtin "str.join") _) _ _ _)); (fail_if_success (with_reducible show wpAny _ _ (PySem.eval (PySem.Expr.ListComp _ _ _ _) _) _ _ _)); (fail_if_success (with_reducible show wpAny _ _ (PySem.exec (PySem.Stmt.Assign _ (PySem.Expr.ListComp _ _ _ _) _) _) _ _ _)); (fail_if_success (with_reducible show LCt.CompSrcT _ _ _ _ _ _ _ _ _ _ _ _ _ _ _)); (fail_if_success (with_reducible show LCg.CompSrc _ _ _ _ _ _ _ _ _ _ _ _ _ _)); (fail_if_success (with_reducible show wpAny _ _ (compareOp CmpOp.Eq (Value.ref _) (Value.ref _)) _ _ _)); (fail_if_success (with_reducible show wpAny _ _ (compareOp CmpOp.NotEq (Value.ref _) (Value.ref _)) _ _ _)); (fail_if_success (with_reducible show wpAny _ _ (PySem.call (Value.builtin "str.count") _) _ _ _)); first | (k_unfold; (try dsimp only)) | (k_end; kc_close) | walk1 | (dsimp only; walk1) | (leave1; walk_say "STEP leave1"; (try dsimp only)) | fail "no step")
        rename Fr g' L' _ _ => F4
        rename News g' L' _ _ => N4
        refine kmk_slice F4 N4 (News.isList N4 (.tail _ (.tail _ (.tail _ hm)))) (.int _ _) .none ?_ (by with_unfolding_all rfl) (by kmk_pure) (lineUs hul hlen)
        intro D5 h5 F5 N5 l5
        rw [show ((k : Int) :: rr).getD (Int.toNat 0) 0 = (k : Int) from rfl, sliceFrom] at N5
        repeat' ((fail_if_success (with_reducible show wpAny _ _ (subscriptTail _ (PySem.Expr.Slice _ _ _ _) (Value.ref _) _) _ _ _)); (fail_if_success (with_reducible show wpAny _ _ (subscriptTail _ (PySem.Expr.Name _ _) (Value.ref _) _) _ _ _)); (fail_if_success (with_reducible show wpAny _ _ (PySem.call (Value.ref _) _) _ _ _)); (fail_if_success (with_reducible show wpAny _ _ (PySem.call (Value.builtin "len") _) _ _ _)); (fail_if_success (with_reducible show wpAny _ _ (PySem.call (Value.builtin "str.join") _) _ _ _)); (fail_if_success (with_reducible show wpAny _ _ (PySem.eval (PySem.Expr.ListComp _ _ _ _) _) _ _ _)); (fail_if_success (with_reducible show wpAny _ _ (PySem.exec (PySem.Stmt.Assign _ (PySem.Expr.ListComp _ _ _ _) _) _) _ _ _)); (fail_if_success (with_reducible show LCt.CompSrcT _ _ _ _ _ _ _ _ _ _ _ _ _ _ _)); (fail_if_success (with_reducible show LCg.CompSrc _ _ _ _ _ _ _ _ _ _ _ _ _ _)); (fail_if_success (with_reducible show wpAny _ _ (compareOp CmpOp.Eq (Value.ref _) (Value.ref _)) _ _ _)); (fail_if_success (with_reducible show wpAny _ _ (compareOp CmpOp.NotEq (Value.ref _) (Value.ref _)) _ _ _)); (fail_if_success (with_reducible show wpAny _ _ (PySem.call (Value.builtin "str.count") _) _ _ _)); first | (k_unfold; (try dsimp only)) | (k_end; kc_close) | walk1 | (dsimp only; walk1) | (leave1; walk_say "STEP leave1"; (try dsimp only)) | fail "no step")
        rename Fr h₀ L _ _ => kF9
        rename News h₀ L _ _ => kN9
        refine ret _ (us.drop k) 0 _ _ kF9 (fun p hp => kN9 p ?_) (by rw [ha]; exact strsAre_drop hs k)
        rcases List.mem_cons.mp hp with rfl | hp
        · exact .head _
        · exact .tail _ (.tail _ (.tail _ (.tail _ hp)))
  refine cut_of AppendC (fun w mean mg mb => ?_) (fun HP => ?_)
  · intro code md tc tm dp un gd cn cs a ccd cl outer A₀ base h₀ L m news s Q E B F X N T hk hn hml hno hd hu ret
    refine wpAny_call ?_
    k_dflt (refine' code_def (binds := [(Str.ofString "code", Value.str code tc), (Str.ofString "modifier", Value.str md tm)]) ?k1 ?k2 ?k3 ?k4 ?k5 ?kA ?kF ?kK ?k6 ?k7 ?k8 ?k9 ?kB ?_ ?c2 ?c3 ?c4 ?c5
            (case kA => exact rfl)
            (case kF => exact rfl)
            (case kK => assumption)
            (case k1 => k_asm)
            (case k2 => k_asm)
            (case k3 => k_asm)
            (case k4 => k_asm)
            (case k5 => k_asm)
            (case k6 => k_is)
            (case k7 => k_is)
            (case k8 => exact room0 hd)
            (case k9 => exact BindsTo.of_eq rfl)
            (case c5 => decide)
            (case kB => exact locs rfl)
            (case c2 => exact rfl)
            (case c3 => exact rfl)
            (case c4 => exact rfl)
            k_whole
            intro g' L' h' FG' F' N' B' X' T'
            (try dsimp only)
            (try k_lift B')
            (try k_fold))
    w_on
    repeat' ((fail_if_success (with_reducible show wpAny _ _ (subscriptTail _ (PySem.Expr.Slice _ _ _ _) (Value.ref _) _) _ _ _)); (fail_if_success (with_reducible show wpAny _ _ (subscriptTail _ (PySem.Expr.Name _ _) (Value.ref _) _) _ _ _)); (fail_if_success (with_reducible show wpAny _ _ (PySem.call (Value.ref _) _) _ _ _)); (fail_if_success (with_reducible show wpAny _ _ (PySem.call (Value.builtin "len") _) _ _ _)); (fail_if_success (with_reducible show wpAny _ _ (PySem.call (Value.builtin "str.join") _) _ _ _)); (fail_if_success (with_reducible show wpAny _ _ (PySem.eval (PySem.Expr.ListComp _ _ _ _) _) _ _ _)); (fail_if_success (with_reducible show wpAny _ _ (PySem.exec (PySem.Stmt.Assign _ (PySem.Expr.ListComp _ _ _ _) _) _) _ _ _)); (fail_if_success (with_reducible show LCt.CompSrcT _ _ _ _ _ _ _ _ _ _ _ _ _ _ _)); (fail_if_success (with_reducible show LCg.CompSrc _ _ _ _ _ _ _ _ _ _ _ _ _ _)); (fail_if_success (with_reducible show wpAny _ _ (compareOp CmpOp.Eq (Value.ref _) (Value.ref _)) _ _ _)); (fail_if_success (with_reducible show wpAny _ _ (compareOp CmpOp.NotEq (Value.ref _) (Value.ref _)) _ _ _)); (fail_if_success (with_reducible show wpAny _ _ (PySem.call (Value.builtin "str.count") _) _ _ _)); first | (k_unfold; (try dsimp only)) | (k_end; kc_close) | walk1 | (dsimp only; walk1) | (leave1; walk_say "STEP leave1"; (try dsimp only)) | fail "no step")
    · rename Fr h₀ L _ _ => kF9
      rename News h₀ L _ _ => kN9
      rw [app_dot (by assumption) (by assumption)]
      exact ret _ _ _ kF9 kN9
    · rename Fr h₀ L _ _ => kF9
      rename News h₀ L _ _ => kN9
      have e9 := app_stay (code := code) (md := md) (by assumption) (by assumption) (by assumption)
      exact cb_retS (Q := Q) ret e9 kF9 (fun p hp => kN9 p (.tail _ (.tail _ hp)))
    · exact absurd (eq_of_beq (by assumption)) hno
    · rename Fr h₀ L _ _ => kF9
      rename News h₀ L _ _ => kN9
      rw [app_more (by assumption) (by assumption) (by assumption)]
      exact ret _ _ _ kF9 (fun p hp => kN9 p (.tail _ (.tail _ hp)))
    · rename Fr h₀ L _ _ => kF9
      rename News h₀ L _ _ => kN9
      rw [app_plain (by assumption)]
      exact ret _ _ _ kF9 kN9
  refine cut_of DueC (fun w mean mg mb => ?_) (fun HD => ?_)
  · intro nm tn l us ms c dp un gd cn cs a ccd cl outer A₀ base h₀ L m news s Q E B F X N T hk hm hs hn hlen hms hd hu ret
    have hul := strsAre_len hs
    refine wpAny_call ?_
    k_dflt (refine' code_defC (binds := [(Str.ofString "name", Value.str nm tn), (Str.ofString "modifiers", Value.ref l)]) ?k1 ?k2 ?k3 ?k4 ?k5 ?kA ?kF ?kK ?k6 ?k7 ?k8 ?k9 ?kB ?kD ?_ ?c2 ?c3 ?c4
            (case kA => exact rfl)
            (case kF => exact rfl)
            (case kK => assumption)
            (case k1 => k_asm)
            (case k2 => k_asm)
            (case k3 => k_asm)
            (case k4 => k_asm)
            (case k5 => k_asm)
            (case k6 => k_is)
            (case k7 => k_is)
            (case k8 => exact room0 hd)
            (case k9 => exact BindsTo.of_eq rfl)
            (case kB => exact rfl)
            (case kD => decide +kernel)
            (case c2 => exact rfl)
            (case c3 => exact rfl)
            (case c4 => exact rfl)
            k_whole
            intro g' L' h' tk' cells' FG' F' N' Y' B' X' T' l1
            (try k_lt l1)
            k_cells Y'
            (replace F' : Fr g' L' h' (fun y => if y = Str.ofString "name" then some (Value.str nm tn) else none) := by with_unfolding_all exact F')
            (try simp only [List.cons_append, List.nil_append] at N')
            (try dsimp only)
            (try k_lift B')
            (try k_fold))
    w_on
    repeat' ((fail_if_success (with_reducible show wpAny _ _ (subscriptTail _ (PySem.Expr.Slice _ _ _ _) (Value.ref _) _) _ _ _)); (fail_if_success (with_reducible show wpAny _ _ (subscriptTail _ (PySem.Expr.Name _ _) (Value.ref _) _) _ _ _)); (fail_if_success (with_reducible show wpAny _ _ (PySem.call (Value.ref _) _) _ _ _)); (fail_if_success (with_reducible show wpAny _ _ (PySem.call (Value.builtin "len") _) _ _ _)); (fail_if_success (with_reducible show wpAny _ _ (PySem.call (Value.builtin "str.join") _) _ _ _)); (fail_if_success (with_reducible show wpAny _ _ (PySem.eval (PySem.Expr.ListComp _ _ _ _) _) _ _ _)); (fail_if_success (with_reducible show wpAny _ _ (PySem.exec (PySem.Stmt.Assign _ (PySem.Expr.ListComp _ _ _ _) _) _) _ _ _)); (fail_if_success (with_reducible show LCt.CompSrcT _ _ _ _ _ _ _ _ _ _ _ _ _ _ _)); (fail_if_success (with_reducible show LCg.CompSrc _ _ _ _ _ _ _ _ _ _ _ _ _ _)); (fail_if_success (with_reducible show wpAny _ _ (compareOp CmpOp.Eq (Value.ref _) (Value.ref _)) _ _ _)); (fail_if_success (with_reducible show wpAny _ _ (compareOp CmpOp.NotEq (Value.ref _) (Value.ref _)) _ _ _)); (fail_if_success (with_reducible show wpAny _ _ (PySem.call (Value.builtin "str.count") _) _ _ _)); first | (k_unfold; (try dsimp only)) | (k_end; kc_close) | walk1 | (dsimp only; walk1) | (leave1; walk_say "STEP leave1"; (try dsimp only)) | fail "no step")
    refine count_n ?_
    intro n t1 k1 hcn
    repeat' ((fail_if_success (with_reducible show wpAny _ _ (subscriptTail _ (PySem.Expr.Slice _ _ _ _) (Value.ref _) _) _ _ _)); (fail_if_success (with_reducible show wpAny _ _ (subscriptTail _ (PySem.Expr.Name _ _) (Value.ref _) _) _ _ _)); (fail_if_success (with_reducible show wpAny _ _ (PySem.call (Value.ref _) _) _ _ _)); (fail_if_success (with_reducible show wpAny _ _ (PySem.call (Value.builtin "len") _) _ _ _)); (fail_if_success (with_reducible show wpAny _ _ (PySem.call (Value.builtin "str.join") _) _ _ _)); (fail_if_success (with_reducible show wpAny _ _ (PySem.eval (PySem.Expr.ListComp _ _ _ _) _) _ _ _)); (fail_if_success (with_reducible show wpAny _ _ (PySem.exec (PySem.Stmt.Assign _ (PySem.Expr.ListComp _ _ _ _) _) _) _ _ _)); (fail_if_success (with_reducible show LCt.CompSrcT _ _ _ _ _ _ _ _ _ _ _ _ _ _ _)); (fail_if_success (with_reducible show LCg.CompSrc _ _ _ _ _ _ _ _ _ _ _ _ _ _)); (fail_if_success (with_reducible show wpAny _ _ (compareOp CmpOp.Eq (Value.ref _) (Value.ref _)) _ _ _)); (fail_if_success (with_reducible show wpAny _ _ (compareOp CmpOp.NotEq (Value.ref _) (Value.ref _)) _ _ _)); (fail_if_success (with_reducible show wpAny _ _ (PySem.call (Value.builtin "str.count") _) _ _ _)); first | (k_unfold; (try dsimp only)) | (k_end; kc_close) | walk1 | (dsimp only; walk1) | (leave1; walk_say "STEP leave1"; (try dsimp only)) | fail "no step")
    k_here
    k_dflt (refine LCt.Assign_ListComp_T (F₀ := by k_asm) (by rfl) (by with_unfolding_all rfl) (by with_unfolding_all rfl) (by decide) (by rfl) (by decide) (by rfl) (by rfl) (by rfl) ?_)
    repeat' ((fail_if_success (with_reducible show wpAny _ _ (subscriptTail _ (PySem.Expr.Slice _ _ _ _) (Value.ref _) _) _ _ _)); (fail_if_success (with_reducible show wpAny _ _ (subscriptTail _ (PySem.Expr.Name _ _) (Value.ref _) _) _ _ _)); (fail_if_success (with_reducible show wpAny _ _ (PySem.call (Value.ref _) _) _ _ _)); (fail_if_success (with_reducible show wpAny _ _ (PySem.call (Value.builtin "len") _) _ _ _)); (fail_if_success (with_reducible show wpAny _ _ (PySem.call (Value.builtin "str.join") _) _ _ _)); (fail_if_success (with_reducible show wpAny _ _ (PySem.eval (PySem.Expr.ListComp _ _ _ _) _) _ _ _)); (fail_if_success (with_reducible show wpAny _ _ (PySem.exec (PySem.Stmt.Assign _ (PySem.Expr.ListComp _ _ _ _) _) _) _ _ _)); (fail_if_success (with_reducible show LCt.CompSrcT _ _ _ _ _ _ _ _ _ _ _ _ _ _ _)); (fail_if_success (with_reducible show LCg.CompSrc _ _ _ _ _ _ _ _ _ _ _ _ _ _)); (fail_if_success (with_reducible show wpAny _ _ (compareOp CmpOp.Eq (Value.ref _) (Value.ref _)) _ _ _)); (fail_if_success (with_reducible show wpAny _ _ (compareOp CmpOp.NotEq (Value.ref _) (Value.ref _)) _ _ _)); (fail_if_success (with_reducible show wpAny _ _ (PySem.call (Value.builtin "str.count") _) _ _ _)); first | (k_unfold; (try dsimp only)) | (k_end; kc_close) | walk1 | (dsimp only; walk1) | (leave1; walk_say "STEP leave1"; (try dsimp only)) | fail "no step")
    rename News g' L' _ _ => N2
    refine kst_len N2 (List.mem_cons_of_mem _ hm) hul (fit63 hlen) ?_
    repeat' ((fail_if_success (with_reducible show wpAny _ _ (subscriptTail _ (PySem.Expr.Slice _ _ _ _) (Value.ref _) _) _ _ _)); (fail_if_success (with_reducible show wpAny _ _ (subscriptTail _ (PySem.Expr.Name _ _) (Value.ref _) _) _ _ _)); (fail_if_success (with_reducible show wpAny _ _ (PySem.call (Value.ref _) _) _ _ _)); (fail_if_success (with_reducible show wpAny _ _ (PySem.call (Value.builtin "len") _) _ _ _)); (fail_if_success (with_reducible show wpAny _ _ (PySem.call (Value.builtin "str.join") _) _ _ _)); (fail_if_success (with_reducible show wpAny _ _ (PySem.eval (PySem.Expr.ListComp _ _ _ _) _) _ _ _)); (fail_if_success (with_reducible show wpAny _ _ (PySem.exec (PySem.Stmt.Assign _ (PySem.Expr.ListComp _ _ _ _) _) _) _ _ _)); (fail_if_success (with_reducible show LCt.CompSrcT _ _ _ _ _ _ _ _ _ _ _ _ _ _ _)); (fail_if_success (with_reducible show LCg.CompSrc _ _ _ _ _ _ _ _ _ _ _ _ _ _)); (fail_if_success (with_reducible show wpAny _ _ (compareOp CmpOp.Eq (Value.ref _) (Value.ref _)) _ _ _)); (fail_if_success (with_reducible show wpAny _ _ (compareOp CmpOp.NotEq (Value.ref _) (Value.ref _)) _ _ _)); (fail_if_success (with_reducible show wpAny _ _ (PySem.call (Value.builtin "str.count") _) _ _ _)); first | (k_unfold; (try dsimp only)) | (k_end; kc_close) | walk1 | (dsimp only; walk1) | (leave1; walk_say "STEP leave1"; (try dsimp only)) | fail "no step")
    refine LCt.CompSrcT.range (n := ms.length) (by rfl) (by k_asm) (by k_asm) (by assumption) (small100 hlen) (size0 _) (line100 hlen) ?_
    intro g2
    refine idx_rest (fun k => ms.getD k Str.empty == euroT) ?_ ?_ ?_
    · intro k t I oI C oC D m₂ ys h tk E' hk hC hx F3 N3 off ne
      repeat' ((fail_if_success (with_reducible show wpAny _ _ (subscriptTail _ (PySem.Expr.Slice _ _ _ _) (Value.ref _) _) _ _ _)); (fail_if_success (with_reducible show wpAny _ _ (subscriptTail _ (PySem.Expr.Name _ _) (Value.ref _) _) _ _ _)); (fail_if_success (with_reducible show wpAny _ _ (PySem.call (Value.ref _) _) _ _ _)); (fail_if_success (with_reducible show wpAny _ _ (PySem.call (Value.builtin "len") _) _ _ _)); (fail_if_success (with_reducible show wpAny _ _ (PySem.call (Value.builtin "str.join") _) _ _ _)); (fail_if_success (with_reducible show wpAny _ _ (PySem.eval (PySem.Expr.ListComp _ _ _ _) _) _ _ _)); (fail_if_success (with_reducible show wpAny _ _ (PySem.exec (PySem.Stmt.Assign _ (PySem.Expr.ListComp _ _ _ _) _) _) _ _ _)); (fail_if_success (with_reducible show LCt.CompSrcT _ _ _ _ _ _ _ _ _ _ _ _ _ _ _)); (fail_if_success (with_reducible show LCg.CompSrc _ _ _ _ _ _ _ _ _ _ _ _ _ _)); (fail_if_success (with_reducible show wpAny _ _ (compareOp CmpOp.Eq (Value.ref _) (Value.ref _)) _ _ _)); (fail_if_success (with_reducible show wpAny _ _ (compareOp CmpOp.NotEq (Value.ref _) (Value.ref _)) _ _ _)); (fail_if_success (with_reducible show wpAny _ _ (PySem.call (Value.builtin "str.count") _) _ _ _)); first | (k_unfold; (try dsimp only)) | (k_end; kc_close) | walk1 | (dsimp only; walk1) | (leave1; walk_say "STEP leave1"; (try dsimp only)) | fail "no step")
      refine item_str (News.isList N3 (.tail _ (.tail _ (.tail _ (.tail _ hm))))) hs hk hlen ?_
      intro t2
      repeat' ((fail_if_success (with_reducible show wpAny _ _ (subscriptTail _ (PySem.Expr.Slice _ _ _ _) (Value.ref _) _) _ _ _)); (fail_if_success (with_reducible show wpAny _ _ (subscriptTail _ (PySem.Expr.Name _ _) (Value.ref _) _) _ _ _)); (fail_if_success (with_reducible show wpAny _ _ (PySem.call (Value.ref _) _) _ _ _)); (fail_if_success (with_reducible show wpAny _ _ (PySem.call (Value.builtin "len") _) _ _ _)); (fail_if_success (with_reducible show wpAny _ _ (PySem.call (Value.builtin "str.join") _) _ _ _)); (fail_if_success (with_reducible show wpAny _ _ (PySem.eval (PySem.Expr.ListComp _ _ _ _) _) _ _ _)); (fail_if_success (with_reducible show wpAny _ _ (PySem.exec (PySem.Stmt.Assign _ (PySem.Expr.ListComp _ _ _ _) _) _) _ _ _)); (fail_if_success (with_reducible show LCt.CompSrcT _ _ _ _ _ _ _ _ _ _ _ _ _ _ _)); (fail_if_success (with_reducible show LCg.CompSrc _ _ _ _ _ _ _ _ _ _ _ _ _ _)); (fail_if_success (with_reducible show wpAny _ _ (compareOp CmpOp.Eq (Value.ref _) (Value.ref _)) _ _ _)); (fail_if_success (with_reducible show wpAny _ _ (compareOp CmpOp.NotEq (Value.ref _) (Value.ref _)) _ _ _)); (fail_if_success (with_reducible show wpAny _ _ (PySem.call (Value.builtin "str.count") _) _ _ _)); first | (k_unfold; (try dsimp only)) | (k_end; kc_close) | walk1 | (dsimp only; walk1) | (leave1; walk_say "STEP leave1"; (try dsimp only)) | fail "no step")
    · intro k t I oI C oC D m₂ ys h tk E' hk hC hx F3 N3 off ne
      repeat' ((fail_if_success (with_reducible show wpAny _ _ (subscriptTail _ (PySem.Expr.Slice _ _ _ _) (Value.ref _) _) _ _ _)); (fail_if_success (with_reducible show wpAny _ _ (subscriptTail _ (PySem.Expr.Name _ _) (Value.ref _) _) _ _ _)); (fail_if_success (with_reducible show wpAny _ _ (PySem.call (Value.ref _) _) _ _ _)); (fail_if_success (with_reducible show wpAny _ _ (PySem.call (Value.builtin "len") _) _ _ _)); (fail_if_success (with_reducible show wpAny _ _ (PySem.call (Value.builtin "str.join") _) _ _ _)); (fail_if_success (with_reducible show wpAny _ _ (PySem.eval (PySem.Expr.ListComp _ _ _ _) _) _ _ _)); (fail_if_success (with_reducible show wpAny _ _ (PySem.exec (PySem.Stmt.Assign _ (PySem.Expr.ListComp _ _ _ _) _) _) _ _ _)); (fail_if_success (with_reducible show LCt.CompSrcT _ _ _ _ _ _ _ _ _ _ _ _ _ _ _)); (fail_if_success (with_reducible show LCg.CompSrc _ _ _ _ _ _ _ _ _ _ _ _ _ _)); (fail_if_success (with_reducible show wpAny _ _ (compareOp CmpOp.Eq (Value.ref _) (Value.ref _)) _ _ _)); (fail_if_success (with_reducible show wpAny _ _ (compareOp CmpOp.NotEq (Value.ref _) (Value.ref _)) _ _ _)); (fail_if_success (with_reducible show wpAny _ _ (PySem.call (Value.builtin "str.count") _) _ _ _)); first | (k_unfold; (try dsimp only)) | (k_end; kc_close) | walk1 | (dsimp only; walk1) | (leave1; walk_say "STEP leave1"; (try dsimp only)) | fail "no step")
    · intro ys hys
      by_cases hc0 : n = 0
      · subst hc0
        cases hf : (List.range ms.length).filter (fun k => ms.getD k Str.empty == euroT) with
        | nil =>
          rw [hf, List.map_nil] at hys
          have ha := euros_nil hf
          clear hf
          repeat' ((fail_if_success (with_reducible show wpAny _ _ (subscriptTail _ (PySem.Expr.Slice _ _ _ _) (Value.ref _) _) _ _ _)); (fail_if_success (with_reducible show wpAny _ _ (subscriptTail _ (PySem.Expr.Name _ _) (Value.ref _) _) _ _ _)); (fail_if_success (with_reducible show wpAny _ _ (PySem.call (Value.ref _) _) _ _ _)); (fail_if_success (with_reducible show wpAny _ _ (PySem.call (Value.builtin "len") _) _ _ _)); (fail_if_success (with_reducible show wpAny _ _ (PySem.call (Value.builtin "str.join") _) _ _ _)); (fail_if_success (with_reducible show wpAny _ _ (PySem.eval (PySem.Expr.ListComp _ _ _ _) _) _ _ _)); (fail_if_success (with_reducible show wpAny _ _ (PySem.exec (PySem.Stmt.Assign _ (PySem.Expr.ListComp _ _ _ _) _) _) _ _ _)); (fail_if_success (with_reducible show LCt.CompSrcT _ _ _ _ _ _ _ _ _ _ _ _ _ _ _)); (fail_if_success (with_reducible show LCg.CompSrc _ _ _ _ _ _ _ _ _ _ _ _ _ _)); (fail_if_success (with_reducible show wpAny _ _ (compareOp CmpOp.Eq (Value.ref _) (Value.ref _)) _ _ _)); (fail_if_success (with_reducible show wpAny _ _ (compareOp CmpOp.NotEq (Value.ref _) (Value.ref _)) _ _ _)); (fail_if_success (with_reducible show wpAny _ _ (PySem.call (Value.builtin "str.count") _) _ _ _)); first | (k_unfold; (try dsimp only)) | (k_end; kc_close) | walk1 | (dsimp only; walk1) | (leave1; walk_say "STEP leave1"; (try dsimp only)) | fail "no step")
          rename News g' L' _ _ => N4
          refine eq_ints_lit (c := true) rfl (News.isList N4 (.tail _ (.head _))) hys (News.isList N4 (.head _)) .nil (unitsEq (by decide) hu) ?_
          repeat' ((fail_if_success (with_reducible show wpAny _ _ (subscriptTail _ (PySem.Expr.Slice _ _ _ _) (Value.ref _) _) _ _ _)); (fail_if_success (with_reducible show wpAny _ _ (subscriptTail _ (PySem.Expr.Name _ _) (Value.ref _) _) _ _ _)); (fail_if_success (with_reducible show wpAny _ _ (PySem.call (Value.ref _) _) _ _ _)); (fail_if_success (with_reducible show wpAny _ _ (PySem.call (Value.builtin "len") _) _ _ _)); (fail_if_success (with_reducible show wpAny _ _ (PySem.call (Value.builtin "str.join") _) _ _ _)); (fail_if_success (with_reducible show wpAny _ _ (PySem.eval (PySem.Expr.ListComp _ _ _ _) _) _ _ _)); (fail_if_success (with_reducible show wpAny _ _ (PySem.exec (PySem.Stmt.Assign _ (PySem.Expr.ListComp _ _ _ _) _) _) _ _ _)); (fail_if_success (with_reducible show LCt.CompSrcT _ _ _ _ _ _ _ _ _ _ _ _ _ _ _)); (fail_if_success (with_reducible show LCg.CompSrc _ _ _ _ _ _ _ _ _ _ _ _ _ _)); (fail_if_success (with_reducible show wpAny _ _ (compareOp CmpOp.Eq (Value.ref _) (Value.ref _)) _ _ _)); (fail_if_success (with_reducible show wpAny _ _ (compareOp CmpOp.NotEq (Value.ref _) (Value.ref _)) _ _ _)); (fail_if_success (with_reducible show wpAny _ _ (PySem.call (Value.builtin "str.count") _) _ _ _)); first | (k_unfold; (try dsimp only)) | (k_end; kc_close) | walk1 | (dsimp only; walk1) | (leave1; walk_say "STEP leave1"; (try dsimp only)) | fail "no step")
          k_dflt (refine' HB w mean mg mb ?zB ?zF ?zX ?zN ?zT ?zk (.tail _ (.tail _ (.tail _ hm))) hs (nm_len hn) hlen hms (room1 hd) (units1 hu) ?_)
          (case zB => k_asm)
          (case zF => k_asm)
          (case zX => k_asm)
          (case zN => k_asm)
          (case zT => k_asm)
          (case zk => exact rfl)
          intro t9 h9 tk9 F9 N9
          repeat' ((fail_if_success (with_reducible show wpAny _ _ (subscriptTail _ (PySem.Expr.Slice _ _ _ _) (Value.ref _) _) _ _ _)); (fail_if_success (with_reducible show wpAny _ _ (subscriptTail _ (PySem.Expr.Name _ _) (Value.ref _) _) _ _ _)); (fail_if_success (with_reducible show wpAny _ _ (PySem.call (Value.ref _) _) _ _ _)); (fail_if_success (with_reducible show wpAny _ _ (PySem.call (Value.builtin "len") _) _ _ _)); (fail_if_success (with_reducible show wpAny _ _ (PySem.call (Value.builtin "str.join") _) _ _ _)); (fail_if_success (with_reducible show wpAny _ _ (PySem.eval (PySem.Expr.ListComp _ _ _ _) _) _ _ _)); (fail_if_success (with_reducible show wpAny _ _ (PySem.exec (PySem.Stmt.Assign _ (PySem.Expr.ListComp _ _ _ _) _) _) _ _ _)); (fail_if_success (with_reducible show LCt.CompSrcT _ _ _ _ _ _ _ _ _ _ _ _ _ _ _)); (fail_if_success (with_reducible show LCg.CompSrc _ _ _ _ _ _ _ _ _ _ _ _ _ _)); (fail_if_success (with_reducible show wpAny _ _ (compareOp CmpOp.Eq (Value.ref _) (Value.ref _)) _ _ _)); (fail_if_success (with_reducible show wpAny _ _ (compareOp CmpOp.NotEq (Value.ref _) (Value.ref _)) _ _ _)); (fail_if_success (with_reducible show wpAny _ _ (PySem.call (Value.builtin "str.count") _) _ _ _)); first | (k_unfold; (try dsimp only)) | (k_end; kc_close) | walk1 | (dsimp only; walk1) | (leave1; walk_say "STEP leave1"; (try dsimp only)) | fail "no step")
          rename Fr h₀ L _ _ => kF9
          rename News h₀ L _ _ => kN9
          exact cb_retS (Q := Q) ret (due_none hcn ha) kF9 (fun p hp => kN9 p (.tail _ (.tail _ (.tail _ hp))))
        | cons k r =>
          rw [hf, List.map_cons] at hys
          obtain ⟨hk, ha, hb⟩ := euros_cons hf
          clear hf
          generalize (List.map (fun (k : Nat) => (k : Int)) r) = rr at hys
          have htl := take_le k hlen
          have hdl := drop_le k hlen
          have htm : ∀ x ∈ ms.take k, x.length ≤ 20 := fun x hx => hms x (List.mem_of_mem_take hx)
          have hdm : ∀ x ∈ ms.drop k, x.length ≤ 20 := fun x hx => hms x (List.mem_of_mem_drop hx)
          have hbl := head_len hn htl htm
          repeat' ((fail_if_success (with_reducible show wpAny _ _ (subscriptTail _ (PySem.Expr.Slice _ _ _ _) (Value.ref _) _) _ _ _)); (fail_if_success (with_reducible show wpAny _ _ (subscriptTail _ (PySem.Expr.Name _ _) (Value.ref _) _) _ _ _)); (fail_if_success (with_reducible show wpAny _ _ (PySem.call (Value.ref _) _) _ _ _)); (fail_if_success (with_reducible show wpAny _ _ (PySem.call (Value.builtin "len") _) _ _ _)); (fail_if_success (with_reducible show wpAny _ _ (PySem.call (Value.builtin "str.join") _) _ _ _)); (fail_if_success (with_reducible show wpAny _ _ (PySem.eval (PySem.Expr.ListComp _ _ _ _) _) _ _ _)); (fail_if_success (with_reducible show wpAny _ _ (PySem.exec (PySem.Stmt.Assign _ (PySem.Expr.ListComp _ _ _ _) _) _) _ _ _)); (fail_if_success (with_reducible show LCt.CompSrcT _ _ _ _ _ _ _ _ _ _ _ _ _ _ _)); (fail_if_success (with_reducible show LCg.CompSrc _ _ _ _ _ _ _ _ _ _ _ _ _ _)); (fail_if_success (with_reducible show wpAny _ _ (compareOp CmpOp.Eq (Value.ref _) (Value.ref _)) _ _ _)); (fail_if_success (with_reducible show wpAny _ _ (compareOp CmpOp.NotEq (Value.ref _) (Value.ref _)) _ _ _)); (fail_if_success (with_reducible show wpAny _ _ (PySem.call (Value.builtin "str.count") _) _ _ _)); first | (k_unfold; (try dsimp only)) | (k_end; kc_close) | walk1 | (dsimp only; walk1) | (leave1; walk_say "STEP leave1"; (try dsimp only)) | fail "no step")
          rename News g' L' _ _ => N4
          refine eq_ints_lit (c := false) rfl (News.isList N4 (.tail _ (.head _))) hys (News.isList N4 (.head _)) .nil (unitsEq (by decide) hu) ?_
          repeat' ((fail_if_success (with_reducible show wpAny _ _ (subscriptTail _ (PySem.Expr.Slice _ _ _ _) (Value.ref _) _) _ _ _)); (fail_if_success (with_reducible show wpAny _ _ (subscriptTail _ (PySem.Expr.Name _ _) (Value.ref _) _) _ _ _)); (fail_if_success (with_reducible show wpAny _ _ (PySem.call (Value.ref _) _) _ _ _)); (fail_if_success (with_reducible show wpAny _ _ (PySem.call (Value.builtin "len") _) _ _ _)); (fail_if_success (with_reducible show wpAny _ _ (PySem.call (Value.builtin "str.join") _) _ _ _)); (fail_if_success (with_reducible show wpAny _ _ (PySem.eval (PySem.Expr.ListComp _ _ _ _) _) _ _ _)); (fail_if_success (with_reducible show wpAny _ _ (PySem.exec (PySem.Stmt.Assign _ (PySem.Expr.ListComp _ _ _ _) _) _) _ _ _)); (fail_if_success (with_reducible show LCt.CompSrcT _ _ _ _ _ _ _ _ _ _ _ _ _ _ _)); (fail_if_success (with_reducible show LCg.CompSrc _ _ _ _ _ _ _ _ _ _ _ _ _ _)); (fail_if_success (with_reducible show wpAny _ _ (compareOp CmpOp.Eq (Value.ref _) (Value.ref _)) _ _ _)); (fail_if_success (with_reducible show wpAny _ _ (compareOp CmpOp.NotEq (Value.ref _) (Value.ref _)) _ _ _)); (fail_if_success (with_reducible show wpAny _ _ (PySem.call (Value.builtin "str.count") _) _ _ _)); first | (k_unfold; (try dsimp only)) | (k_end; kc_close) | walk1 | (dsimp only; walk1) | (leave1; walk_say "STEP leave1"; (try dsimp only)) | fail "no step")
          rename Fr g' L' _ _ => F4
          rename News g' L' _ _ => N4
          refine kmk_slice F4 N4 (News.isList N4 (.tail _ (.tail _ (.tail _ hm)))) .none (.int _ _) ?_ (by with_unfolding_all rfl) (by kmk_pure) (lineUs hul hlen)
          intro D5 h5 F5 N5 l5
          rw [show ((k : Int) :: rr).getD (Int.toNat 0) 0 = (k : Int) from rfl, sliceUpto] at N5
          repeat' ((fail_if_success (with_reducible show wpAny _ _ (subscriptTail _ (PySem.Expr.Slice _ _ _ _) (Value.ref _) _) _ _ _)); (fail_if_success (with_reducible show wpAny _ _ (subscriptTail _ (PySem.Expr.Name _ _) (Value.ref _) _) _ _ _)); (fail_if_success (with_reducible show wpAny _ _ (PySem.call (Value.ref _) _) _ _ _)); (fail_if_success (with_reducible show wpAny _ _ (PySem.call (Value.builtin "len") _) _ _ _)); (fail_if_success (with_reducible show wpAny _ _ (PySem.call (Value.builtin "str.join") _) _ _ _)); (fail_if_success (with_reducible show wpAny _ _ (PySem.eval (PySem.Expr.ListComp _ _ _ _) _) _ _ _)); (fail_if_success (with_reducible show wpAny _ _ (PySem.exec (PySem.Stmt.Assign _ (PySem.Expr.ListComp _ _ _ _) _) _) _ _ _)); (fail_if_success (with_reducible show LCt.CompSrcT _ _ _ _ _ _ _ _ _ _ _ _ _ _ _)); (fail_if_success (with_reducible show LCg.CompSrc _ _ _ _ _ _ _ _ _ _ _ _ _ _)); (fail_if_success (with_reducible show wpAny _ _ (compareOp CmpOp.Eq (Value.ref _) (Value.ref _)) _ _ _)); (fail_if_success (with_reducible show wpAny _ _ (compareOp CmpOp.NotEq (Value.ref _) (Value.ref _)) _ _ _)); (fail_if_success (with_reducible show wpAny _ _ (PySem.call (Value.builtin "str.count") _) _ _ _)); first | (k_unfold; (try dsimp only)) | (k_end; kc_close) | walk1 | (dsimp only; walk1) | (leave1; walk_say "STEP leave1"; (try dsimp only)) | fail "no step")
          k_dflt (refine' HB w mean mg mb ?zB ?zF ?zX ?zN ?zT ?zk (.head _) (strsAre_take hs k) (nm_len hn) htl htm (room1 hd) (units1 hu) ?_)
          (case zB => k_asm)
          (case zF => k_asm)
          (case zX => k_asm)
          (case zN => k_asm)
          (case zT => k_asm)
          (case zk => exact rfl)
          intro t9 h9 tk9 F9 N9
          repeat' ((fail_if_success (with_reducible show wpAny _ _ (subscriptTail _ (PySem.Expr.Slice _ _ _ _) (Value.ref _) _) _ _ _)); (fail_if_success (with_reducible show wpAny _ _ (subscriptTail _ (PySem.Expr.Name _ _) (Value.ref _) _) _ _ _)); (fail_if_success (with_reducible show wpAny _ _ (PySem.call (Value.ref _) _) _ _ _)); (fail_if_success (with_reducible show wpAny _ _ (PySem.call (Value.builtin "len") _) _ _ _)); (fail_if_success (with_reducible show wpAny _ _ (PySem.call (Value.builtin "str.join") _) _ _ _)); (fail_if_success (with_reducible show wpAny _ _ (PySem.eval (PySem.Expr.ListComp _ _ _ _) _) _ _ _)); (fail_if_success (with_reducible show wpAny _ _ (PySem.exec (PySem.Stmt.Assign _ (PySem.Expr.ListComp _ _ _ _) _) _) _ _ _)); (fail_if_success (with_reducible show LCt.CompSrcT _ _ _ _ _ _ _ _ _ _ _ _ _ _ _)); (fail_if_success (with_reducible show LCg.CompSrc _ _ _ _ _ _ _ _ _ _ _ _ _ _)); (fail_if_success (with_reducible show wpAny _ _ (compareOp CmpOp.Eq (Value.ref _) (Value.ref _)) _ _ _)); (fail_if_success (with_reducible show wpAny _ _ (compareOp CmpOp.NotEq (Value.ref _) (Value.ref _)) _ _ _)); (fail_if_success (with_reducible show wpAny _ _ (PySem.call (Value.builtin "str.count") _) _ _ _)); first | (k_unfold; (try dsimp only)) | (k_end; kc_close) | walk1 | (dsimp only; walk1) | (leave1; walk_say "STEP leave1"; (try dsimp only)) | fail "no step")
          rename Fr g' L' _ _ => F6
          rename News g' L' _ _ => N6
          refine kmk_slice F6 N6 (News.isList N6 (.tail _ (.tail _ (.tail _ (.tail _ hm))))) (.int _ _) .none ?_ (by with_unfolding_all rfl) (by kmk_pure) (lineUs hul hlen)
          intro D7 h7 F7 N7 l7
          rw [show ((k : Int) :: rr).getD (Int.toNat 0) 0 = (k : Int) from rfl, sliceFrom] at N7
          repeat' ((fail_if_success (with_reducible show wpAny _ _ (subscriptTail _ (PySem.Expr.Slice _ _ _ _) (Value.ref _) _) _ _ _)); (fail_if_success (with_reducible show wpAny _ _ (subscriptTail _ (PySem.Expr.Name _ _) (Value.ref _) _) _ _ _)); (fail_if_success (with_reducible show wpAny _ _ (PySem.call (Value.ref _) _) _ _ _)); (fail_if_success (with_reducible show wpAny _ _ (PySem.call (Value.builtin "len") _) _ _ _)); (fail_if_success (with_reducible show wpAny _ _ (PySem.call (Value.builtin "str.join") _) _ _ _)); (fail_if_success (with_reducible show wpAny _ _ (PySem.eval (PySem.Expr.ListComp _ _ _ _) _) _ _ _)); (fail_if_success (with_reducible show wpAny _ _ (PySem.exec (PySem.Stmt.Assign _ (PySem.Expr.ListComp _ _ _ _) _) _) _ _ _)); (fail_if_success (with_reducible show LCt.CompSrcT _ _ _ _ _ _ _ _ _ _ _ _ _ _ _)); (fail_if_success (with_reducible show LCg.CompSrc _ _ _ _ _ _ _ _ _ _ _ _ _ _)); (fail_if_success (with_reducible show wpAny _ _ (compareOp CmpOp.Eq (Value.ref _) (Value.ref _)) _ _ _)); (fail_if_success (with_reducible show wpAny _ _ (compareOp CmpOp.NotEq (Value.ref _) (Value.ref _)) _ _ _)); (fail_if_success (with_reducible show wpAny _ _ (PySem.call (Value.builtin "str.count") _) _ _ _)); first | (k_unfold; (try dsimp only)) | (k_end; kc_close) | walk1 | (dsimp only; walk1) | (leave1; walk_say "STEP leave1"; (try dsimp only)) | fail "no step")
          k_dflt (refine' HA w mean mg mb ?zB ?zF ?zX ?zN ?zT ?zk (.head _) (strsAre_drop hs k) hdl (room1 hd) (units1 hu) ?_)
          (case zB => k_asm)
          (case zF => k_asm)
          (case zX => k_asm)
          (case zN => k_asm)
          (case zT => k_asm)
          (case zk => exact rfl)
          intro D8 vs8 n8 h8 tk8 F8 N8 hs8
          repeat' ((fail_if_success (with_reducible show wpAny _ _ (subscriptTail _ (PySem.Expr.Slice _ _ _ _) (Value.ref _) _) _ _ _)); (fail_if_success (with_reducible show wpAny _ _ (subscriptTail _ (PySem.Expr.Name _ _) (Value.ref _) _) _ _ _)); (fail_if_success (with_reducible show wpAny _ _ (PySem.call (Value.ref _) _) _ _ _)); (fail_if_success (with_reducible show wpAny _ _ (PySem.call (Value.builtin "len") _) _ _ _)); (fail_if_success (with_reducible show wpAny _ _ (PySem.call (Value.builtin "str.join") _) _ _ _)); (fail_if_success (with_reducible show wpAny _ _ (PySem.eval (PySem.Expr.ListComp _ _ _ _) _) _ _ _)); (fail_if_success (with_reducible show wpAny _ _ (PySem.exec (PySem.Stmt.Assign _ (PySem.Expr.ListComp _ _ _ _) _) _) _ _ _)); (fail_if_success (with_reducible show LCt.CompSrcT _ _ _ _ _ _ _ _ _ _ _ _ _ _ _)); (fail_if_success (with_reducible show LCg.CompSrc _ _ _ _ _ _ _ _ _ _ _ _ _ _)); (fail_if_success (with_reducible show wpAny _ _ (compareOp CmpOp.Eq (Value.ref _) (Value.ref _)) _ _ _)); (fail_if_success (with_reducible show wpAny _ _ (compareOp CmpOp.NotEq (Value.ref _) (Value.ref _)) _ _ _)); (fail_if_success (with_reducible show wpAny _ _ (PySem.call (Value.builtin "str.count") _) _ _ _)); first | (k_unfold; (try dsimp only)) | (k_end; kc_close) | walk1 | (dsimp only; walk1) | (leave1; walk_say "STEP leave1"; (try dsimp only)) | fail "no step")
          k_dflt (refine' HB w mean mg mb ?zB ?zF ?zX ?zN ?zT ?zk (.head _) hs8 (head2_len hbl) (after_len hdl) (after_mem hdm) (room1 hd) (units1 hu) ?_)
          (case zB => k_asm)
          (case zF => k_asm)
          (case zX => k_asm)
          (case zN => k_asm)
          (case zT => k_asm)
          (case zk => exact rfl)
          intro t9 h9 tk9 F9 N9
          repeat' ((fail_if_success (with_reducible show wpAny _ _ (subscriptTail _ (PySem.Expr.Slice _ _ _ _) (Value.ref _) _) _ _ _)); (fail_if_success (with_reducible show wpAny _ _ (subscriptTail _ (PySem.Expr.Name _ _) (Value.ref _) _) _ _ _)); (fail_if_success (with_reducible show wpAny _ _ (PySem.call (Value.ref _) _) _ _ _)); (fail_if_success (with_reducible show wpAny _ _ (PySem.call (Value.builtin "len") _) _ _ _)); (fail_if_success (with_reducible show wpAny _ _ (PySem.call (Value.builtin "str.join") _) _ _ _)); (fail_if_success (with_reducible show wpAny _ _ (PySem.eval (PySem.Expr.ListComp _ _ _ _) _) _ _ _)); (fail_if_success (with_reducible show wpAny _ _ (PySem.exec (PySem.Stmt.Assign _ (PySem.Expr.ListComp _ _ _ _) _) _) _ _ _)); (fail_if_success (with_reducible show LCt.CompSrcT _ _ _ _ _ _ _ _ _ _ _ _ _ _ _)); (fail_if_success (with_reducible show LCg.CompSrc _ _ _ _ _ _ _ _ _ _ _ _ _ _)); (fail_if_success (with_reducible show wpAny _ _ (compareOp CmpOp.Eq (Value.ref _) (Value.ref _)) _ _ _)); (fail_if_success (with_reducible show wpAny _ _ (compareOp CmpOp.NotEq (Value.ref _) (Value.ref _)) _ _ _)); (fail_if_success (with_reducible show wpAny _ _ (PySem.call (Value.builtin "str.count") _) _ _ _)); first | (k_unfold; (try dsimp only)) | (k_end; kc_close) | walk1 | (dsimp only; walk1) | (leave1; walk_say "STEP leave1"; (try dsimp only)) | fail "no step")
          rename Fr h₀ L _ _ => kF9
          rename News h₀ L _ _ => kN9
          exact cb_retS (Q := Q) ret (due_some hcn hk ha hb) kF9 (fun p hp => kN9 p (.tail _ (.tail _ (.tail _ (.tail _ (.tail _ (.tail _ hp)))))))
      · clear hys
        have hz : ¬ Txt.count nm (Str.ofString ".") = 0 := by rw [hcn]; exact hc0
        by_cases hc1 : n = 1
        · subst hc1
          repeat' ((fail_if_success (with_reducible show wpAny _ _ (subscriptTail _ (PySem.Expr.Slice _ _ _ _) (Value.ref _) _) _ _ _)); (fail_if_success (with_reducible show wpAny _ _ (subscriptTail _ (PySem.Expr.Name _ _) (Value.ref _) _) _ _ _)); (fail_if_success (with_reducible show wpAny _ _ (PySem.call (Value.ref _) _) _ _ _)); (fail_if_success (with_reducible show wpAny _ _ (PySem.call (Value.builtin "len") _) _ _ _)); (fail_if_success (with_reducible show wpAny _ _ (PySem.call (Value.builtin "str.join") _) _ _ _)); (fail_if_success (with_reducible show wpAny _ _ (PySem.eval (PySem.Expr.ListComp _ _ _ _) _) _ _ _)); (fail_if_success (with_reducible show wpAny _ _ (PySem.exec (PySem.Stmt.Assign _ (PySem.Expr.ListComp _ _ _ _) _) _) _ _ _)); (fail_if_success (with_reducible show LCt.CompSrcT _ _ _ _ _ _ _ _ _ _ _ _ _ _ _)); (fail_if_success (with_reducible show LCg.CompSrc _ _ _ _ _ _ _ _ _ _ _ _ _ _)); (fail_if_success (with_reducible show wpAny _ _ (compareOp CmpOp.Eq (Value.ref _) (Value.ref _)) _ _ _)); (fail_if_success (with_reducible show wpAny _ _ (compareOp CmpOp.NotEq (Value.ref _) (Value.ref _)) _ _ _)); (fail_if_success (with_reducible show wpAny _ _ (PySem.call (Value.builtin "str.count") _) _ _ _)); first | (k_unfold; (try dsimp only)) | (k_end; kc_close) | walk1 | (dsimp only; walk1) | (leave1; walk_say "STEP leave1"; (try dsimp only)) | fail "no step")
          · k_dflt (refine' HA w mean mg mb ?zB ?zF ?zX ?zN ?zT ?zk (.tail _ (.tail _ hm)) hs hlen (room1 hd) (units1 hu) ?_)
            (case zB => k_asm)
            (case zF => k_asm)
            (case zX => k_asm)
            (case zN => k_asm)
            (case zT => k_asm)
            (case zk => exact rfl)
            intro D8 vs8 n8 h8 tk8 F8 N8 hs8
            repeat' ((fail_if_success (with_reducible show wpAny _ _ (subscriptTail _ (PySem.Expr.Slice _ _ _ _) (Value.ref _) _) _ _ _)); (fail_if_success (with_reducible show wpAny _ _ (subscriptTail _ (PySem.Expr.Name _ _) (Value.ref _) _) _ _ _)); (fail_if_success (with_reducible show wpAny _ _ (PySem.call (Value.ref _) _) _ _ _)); (fail_if_success (with_reducible show wpAny _ _ (PySem.call (Value.builtin "len") _) _ _ _)); (fail_if_success (with_reducible show wpAny _ _ (PySem.call (Value.builtin "str.join") _) _ _ _)); (fail_if_success (with_reducible show wpAny _ _ (PySem.eval (PySem.Expr.ListComp _ _ _ _) _) _ _ _)); (fail_if_success (with_reducible show wpAny _ _ (PySem.exec (PySem.Stmt.Assign _ (PySem.Expr.ListComp _ _ _ _) _) _) _ _ _)); (fail_if_success (with_reducible show LCt.CompSrcT _ _ _ _ _ _ _ _ _ _ _ _ _ _ _)); (fail_if_success (with_reducible show LCg.CompSrc _ _ _ _ _ _ _ _ _ _ _ _ _ _)); (fail_if_success (with_reducible show wpAny _ _ (compareOp CmpOp.Eq (Value.ref _) (Value.ref _)) _ _ _)); (fail_if_success (with_reducible show wpAny _ _ (compareOp CmpOp.NotEq (Value.ref _) (Value.ref _)) _ _ _)); (fail_if_success (with_reducible show wpAny _ _ (PySem.call (Value.builtin "str.count") _) _ _ _)); first | (k_unfold; (try dsimp only)) | (k_end; kc_close) | walk1 | (dsimp only; walk1) | (leave1; walk_say "STEP leave1"; (try dsimp only)) | fail "no step")
            k_dflt (refine' HB w mean mg mb ?zB ?zF ?zX ?zN ?zT ?zk (.head _) hs8 (nm_len hn) (after_len hlen) (after_mem hms) (room1 hd) (units1 hu) ?_)
            (case zB => k_asm)
            (case zF => k_asm)
            (case zX => k_asm)
            (case zN => k_asm)
            (case zT => k_asm)
            (case zk => exact rfl)
            intro t9 h9 tk9 F9 N9
            repeat' ((fail_if_success (with_reducible show wpAny _ _ (subscriptTail _ (PySem.Expr.Slice _ _ _ _) (Value.ref _) _) _ _ _)); (fail_if_success (with_reducible show wpAny _ _ (subscriptTail _ (PySem.Expr.Name _ _) (Value.ref _) _) _ _ _)); (fail_if_success (with_reducible show wpAny _ _ (PySem.call (Value.ref _) _) _ _ _)); (fail_if_success (with_reducible show wpAny _ _ (PySem.call (Value.builtin "len") _) _ _ _)); (fail_if_success (with_reducible show wpAny _ _ (PySem.call (Value.builtin "str.join") _) _ _ _)); (fail_if_success (with_reducible show wpAny _ _ (PySem.eval (PySem.Expr.ListComp _ _ _ _) _) _ _ _)); (fail_if_success (with_reducible show wpAny _ _ (PySem.exec (PySem.Stmt.Assign _ (PySem.Expr.ListComp _ _ _ _) _) _) _ _ _)); (fail_if_success (with_reducible show LCt.CompSrcT _ _ _ _ _ _ _ _ _ _ _ _ _ _ _)); (fail_if_success (with_reducible show LCg.CompSrc _ _ _ _ _ _ _ _ _ _ _ _ _ _)); (fail_if_success (with_reducible show wpAny _ _ (compareOp CmpOp.Eq (Value.ref _) (Value.ref _)) _ _ _)); (fail_if_success (with_reducible show wpAny _ _ (compareOp CmpOp.NotEq (Value.ref _) (Value.ref _)) _ _ _)); (fail_if_success (with_reducible show wpAny _ _ (PySem.call (Value.builtin "str.count") _) _ _ _)); first | (k_unfold; (try dsimp only)) | (k_end; kc_close) | walk1 | (dsimp only; walk1) | (leave1; walk_say "STEP leave1"; (try dsimp only)) | fail "no step")
            rename Fr h₀ L _ _ => kF9
            rename News h₀ L _ _ => kN9
            exact cb_retS (Q := Q) ret (due_iso hz hcn (by assumption)) kF9 (fun p hp => kN9 p (.tail _ (.tail _ (.tail _ hp))))
          · k_dflt (refine' HA w mean mg mb ?zB ?zF ?zX ?zN ?zT ?zk (.tail _ (.tail _ hm)) hs hlen (room1 hd) (units1 hu) ?_)
            (case zB => k_asm)
            (case zF => k_asm)
            (case zX => k_asm)
            (case zN => k_asm)
            (case zT => k_asm)
            (case zk => exact rfl)
            intro D8 vs8 n8 h8 tk8 F8 N8 hs8
            repeat' ((fail_if_success (with_reducible show wpAny _ _ (subscriptTail _ (PySem.Expr.Slice _ _ _ _) (Value.ref _) _) _ _ _)); (fail_if_success (with_reducible show wpAny _ _ (subscriptTail _ (PySem.Expr.Name _ _) (Value.ref _) _) _ _ _)); (fail_if_success (with_reducible show wpAny _ _ (PySem.call (Value.ref _) _) _ _ _)); (fail_if_success (with_reducible show wpAny _ _ (PySem.call (Value.builtin "len") _) _ _ _)); (fail_if_success (with_reducible show wpAny _ _ (PySem.call (Value.builtin "str.join") _) _ _ _)); (fail_if_success (with_reducible show wpAny _ _ (PySem.eval (PySem.Expr.ListComp _ _ _ _) _) _ _ _)); (fail_if_success (with_reducible show wpAny _ _ (PySem.exec (PySem.Stmt.Assign _ (PySem.Expr.ListComp _ _ _ _) _) _) _ _ _)); (fail_if_success (with_reducible show LCt.CompSrcT _ _ _ _ _ _ _ _ _ _ _ _ _ _ _)); (fail_if_success (with_reducible show LCg.CompSrc _ _ _ _ _ _ _ _ _ _ _ _ _ _)); (fail_if_success (with_reducible show wpAny _ _ (compareOp CmpOp.Eq (Value.ref _) (Value.ref _)) _ _ _)); (fail_if_success (with_reducible show wpAny _ _ (compareOp CmpOp.NotEq (Value.ref _) (Value.ref _)) _ _ _)); (fail_if_success (with_reducible show wpAny _ _ (PySem.call (Value.builtin "str.count") _) _ _ _)); first | (k_unfold; (try dsimp only)) | (k_end; kc_close) | walk1 | (dsimp only; walk1) | (leave1; walk_say "STEP leave1"; (try dsimp only)) | fail "no step")
            k_dflt (refine' HB w mean mg mb ?zB ?zF ?zX ?zN ?zT ?zk (.head _) hs8 (nm_len hn) (after_len hlen) (after_mem hms) (room1 hd) (units1 hu) ?_)
            (case zB => k_asm)
            (case zF => k_asm)
            (case zX => k_asm)
            (case zN => k_asm)
            (case zT => k_asm)
            (case zk => exact rfl)
            intro t9 h9 tk9 F9 N9
            repeat' ((fail_if_success (with_reducible show wpAny _ _ (subscriptTail _ (PySem.Expr.Slice _ _ _ _) (Value.ref _) _) _ _ _)); (fail_if_success (with_reducible show wpAny _ _ (subscriptTail _ (PySem.Expr.Name _ _) (Value.ref _) _) _ _ _)); (fail_if_success (with_reducible show wpAny _ _ (PySem.call (Value.ref _) _) _ _ _)); (fail_if_success (with_reducible show wpAny _ _ (PySem.call (Value.builtin "len") _) _ _ _)); (fail_if_success (with_reducible show wpAny _ _ (PySem.call (Value.builtin "str.join") _) _ _ _)); (fail_if_success (with_reducible show wpAny _ _ (PySem.eval (PySem.Expr.ListComp _ _ _ _) _) _ _ _)); (fail_if_success (with_reducible show wpAny _ _ (PySem.exec (PySem.Stmt.Assign _ (PySem.Expr.ListComp _ _ _ _) _) _) _ _ _)); (fail_if_success (with_reducible show LCt.CompSrcT _ _ _ _ _ _ _ _ _ _ _ _ _ _ _)); (fail_if_success (with_reducible show LCg.CompSrc _ _ _ _ _ _ _ _ _ _ _ _ _ _)); (fail_if_success (with_reducible show wpAny _ _ (compareOp CmpOp.Eq (Value.ref _) (Value.ref _)) _ _ _)); (fail_if_success (with_reducible show wpAny _ _ (compareOp CmpOp.NotEq (Value.ref _) (Value.ref _)) _ _ _)); (fail_if_success (with_reducible show wpAny _ _ (PySem.call (Value.builtin "str.count") _) _ _ _)); first | (k_unfold; (try dsimp only)) | (k_end; kc_close) | walk1 | (dsimp only; walk1) | (leave1; walk_say "STEP leave1"; (try dsimp only)) | fail "no step")
            rename Fr h₀ L _ _ => kF9
            rename News h₀ L _ _ => kN9
            exact cb_retS (Q := Q) ret (due_utf hz hcn (by assumption)) kF9 (fun p hp => kN9 p (.tail _ (.tail _ (.tail _ hp))))
          · k_dflt (refine' HB w mean mg mb ?zB ?zF ?zX ?zN ?zT ?zk (.tail _ (.tail _ hm)) hs (nm_len hn) hlen hms (room1 hd) (units1 hu) ?_)
            (case zB => k_asm)
            (case zF => k_asm)
            (case zX => k_asm)
            (case zN => k_asm)
            (case zT => k_asm)
            (case zk => exact rfl)
            intro t9 h9 tk9 F9 N9
            repeat' ((fail_if_success (with_reducible show wpAny _ _ (subscriptTail _ (PySem.Expr.Slice _ _ _ _) (Value.ref _) _) _ _ _)); (fail_if_success (with_reducible show wpAny _ _ (subscriptTail _ (PySem.Expr.Name _ _) (Value.ref _) _) _ _ _)); (fail_if_success (with_reducible show wpAny _ _ (PySem.call (Value.ref _) _) _ _ _)); (fail_if_success (with_reducible show wpAny _ _ (PySem.call (Value.builtin "len") _) _ _ _)); (fail_if_success (with_reducible show wpAny _ _ (PySem.call (Value.builtin "str.join") _) _ _ _)); (fail_if_success (with_reducible show wpAny _ _ (PySem.eval (PySem.Expr.ListComp _ _ _ _) _) _ _ _)); (fail_if_success (with_reducible show wpAny _ _ (PySem.exec (PySem.Stmt.Assign _ (PySem.Expr.ListComp _ _ _ _) _) _) _ _ _)); (fail_if_success (with_reducible show LCt.CompSrcT _ _ _ _ _ _ _ _ _ _ _ _ _ _ _)); (fail_if_success (with_reducible show LCg.CompSrc _ _ _ _ _ _ _ _ _ _ _ _ _ _)); (fail_if_success (with_reducible show wpAny _ _ (compareOp CmpOp.Eq (Value.ref _) (Value.ref _)) _ _ _)); (fail_if_success (with_reducible show wpAny _ _ (compareOp CmpOp.NotEq (Value.ref _) (Value.ref _)) _ _ _)); (fail_if_success (with_reducible show wpAny _ _ (PySem.call (Value.builtin "str.count") _) _ _ _)); first | (k_unfold; (try dsimp only)) | (k_end; kc_close) | walk1 | (dsimp only; walk1) | (leave1; walk_say "STEP leave1"; (try dsimp only)) | fail "no step")
            rename Fr h₀ L _ _ => kF9
            rename News h₀ L _ _ => kN9
            exact cb_retS (Q := Q) ret (due_neither hz (by assumption) (by assumption)) kF9 (fun p hp => kN9 p (.tail _ (.tail _ hp)))
        · repeat' ((fail_if_success (with_reducible show wpAny _ _ (subscriptTail _ (PySem.Expr.Slice _ _ _ _) (Value.ref _) _) _ _ _)); (fail_if_success (with_reducible show wpAny _ _ (subscriptTail _ (PySem.Expr.Name _ _) (Value.ref _) _) _ _ _)); (fail_if_success (with_reducible show wpAny _ _ (PySem.call (Value.ref _) _) _ _ _)); (fail_if_success (with_reducible show wpAny _ _ (PySem.call (Value.builtin "len") _) _ _ _)); (fail_if_success (with_reducible show wpAny _ _ (PySem.call (Value.builtin "str.join") _) _ _ _)); (fail_if_success (with_reducible show wpAny _ _ (PySem.eval (PySem.Expr.ListComp _ _ _ _) _) _ _ _)); (fail_if_success (with_reducible show wpAny _ _ (PySem.exec (PySem.Stmt.Assign _ (PySem.Expr.ListComp _ _ _ _) _) _) _ _ _)); (fail_if_success (with_reducible show LCt.CompSrcT _ _ _ _ _ _ _ _ _ _ _ _ _ _ _)); (fail_if_success (with_reducible show LCg.CompSrc _ _ _ _ _ _ _ _ _ _ _ _ _ _)); (fail_if_success (with_reducible show wpAny _ _ (compareOp CmpOp.Eq (Value.ref _) (Value.ref _)) _ _ _)); (fail_if_success (with_reducible show wpAny _ _ (compareOp CmpOp.NotEq (Value.ref _) (Value.ref _)) _ _ _)); (fail_if_success (with_reducible show wpAny _ _ (PySem.call (Value.builtin "str.count") _) _ _ _)); (fail_if_success (with_reducible show wpAny _ _ (compareOp CmpOp.Eq (Value.int _ _) (Value.int _ _)) _ _ _)); first | (k_unfold; (try dsimp only)) | (k_end; kc_close) | walk1 | (dsimp only; walk1) | (leave1; walk_say "STEP leave1"; (try dsimp only)) | fail "no step")
          refine eq_int_lit (c := false) (decide_eq_false hc0) ?_
          repeat' ((fail_if_success (with_reducible show wpAny _ _ (subscriptTail _ (PySem.Expr.Slice _ _ _ _) (Value.ref _) _) _ _ _)); (fail_if_success (with_reducible show wpAny _ _ (subscriptTail _ (PySem.Expr.Name _ _) (Value.ref _) _) _ _ _)); (fail_if_success (with_reducible show wpAny _ _ (PySem.call (Value.ref _) _) _ _ _)); (fail_if_success (with_reducible show wpAny _ _ (PySem.call (Value.builtin "len") _) _ _ _)); (fail_if_success (with_reducible show wpAny _ _ (PySem.call (Value.builtin "str.join") _) _ _ _)); (fail_if_success (with_reducible show wpAny _ _ (PySem.eval (PySem.Expr.ListComp _ _ _ _) _) _ _ _)); (fail_if_success (with_reducible show wpAny _ _ (PySem.exec (PySem.Stmt.Assign _ (PySem.Expr.ListComp _ _ _ _) _) _) _ _ _)); (fail_if_success (with_reducible show LCt.CompSrcT _ _ _ _ _ _ _ _ _ _ _ _ _ _ _)); (fail_if_success (with_reducible show LCg.CompSrc _ _ _ _ _ _ _ _ _ _ _ _ _ _)); (fail_if_success (with_reducible show wpAny _ _ (compareOp CmpOp.Eq (Value.ref _) (Value.ref _)) _ _ _)); (fail_if_success (with_reducible show wpAny _ _ (compareOp CmpOp.NotEq (Value.ref _) (Value.ref _)) _ _ _)); (fail_if_success (with_reducible show wpAny _ _ (PySem.call (Value.builtin "str.count") _) _ _ _)); (fail_if_success (with_reducible show wpAny _ _ (compareOp CmpOp.Eq (Value.int _ _) (Value.int _ _)) _ _ _)); first | (k_unfold; (try dsimp only)) | (k_end; kc_close) | walk1 | (dsimp only; walk1) | (leave1; walk_say "STEP leave1"; (try dsimp only)) | fail "no step")
          refine eq_int_lit (c := false) (decide_eq_false hc0) ?_
          repeat' ((fail_if_success (with_reducible show wpAny _ _ (subscriptTail _ (PySem.Expr.Slice _ _ _ _) (Value.ref _) _) _ _ _)); (fail_if_success (with_reducible show wpAny _ _ (subscriptTail _ (PySem.Expr.Name _ _) (Value.ref _) _) _ _ _)); (fail_if_success (with_reducible show wpAny _ _ (PySem.call (Value.ref _) _) _ _ _)); (fail_if_success (with_reducible show wpAny _ _ (PySem.call (Value.builtin "len") _) _ _ _)); (fail_if_success (with_reducible show wpAny _ _ (PySem.call (Value.builtin "str.join") _) _ _ _)); (fail_if_success (with_reducible show wpAny _ _ (PySem.eval (PySem.Expr.ListComp _ _ _ _) _) _ _ _)); (fail_if_success (with_reducible show wpAny _ _ (PySem.exec (PySem.Stmt.Assign _ (PySem.Expr.ListComp _ _ _ _) _) _) _ _ _)); (fail_if_success (with_reducible show LCt.CompSrcT _ _ _ _ _ _ _ _ _ _ _ _ _ _ _)); (fail_if_success (with_reducible show LCg.CompSrc _ _ _ _ _ _ _ _ _ _ _ _ _ _)); (fail_if_success (with_reducible show wpAny _ _ (compareOp CmpOp.Eq (Value.ref _) (Value.ref _)) _ _ _)); (fail_if_success (with_reducible show wpAny _ _ (compareOp CmpOp.NotEq (Value.ref _) (Value.ref _)) _ _ _)); (fail_if_success (with_reducible show wpAny _ _ (PySem.call (Value.builtin "str.count") _) _ _ _)); (fail_if_success (with_reducible show wpAny _ _ (compareOp CmpOp.Eq (Value.int _ _) (Value.int _ _)) _ _ _)); first | (k_unfold; (try dsimp only)) | (k_end; kc_close) | walk1 | (dsimp only; walk1) | (leave1; walk_say "STEP leave1"; (try dsimp only)) | fail "no step")
          refine eq_int_lit (c := false) (decide_eq_false hc1) ?_
          repeat' ((fail_if_success (with_reducible show wpAny _ _ (subscriptTail _ (PySem.Expr.Slice _ _ _ _) (Value.ref _) _) _ _ _)); (fail_if_success (with_reducible show wpAny _ _ (subscriptTail _ (PySem.Expr.Name _ _) (Value.ref _) _) _ _ _)); (fail_if_success (with_reducible show wpAny _ _ (PySem.call (Value.ref _) _) _ _ _)); (fail_if_success (with_reducible show wpAny _ _ (PySem.call (Value.builtin "len") _) _ _ _)); (fail_if_success (with_reducible show wpAny _ _ (PySem.call (Value.builtin "str.join") _) _ _ _)); (fail_if_success (with_reducible show wpAny _ _ (PySem.eval (PySem.Expr.ListComp _ _ _ _) _) _ _ _)); (fail_if_success (with_reducible show wpAny _ _ (PySem.exec (PySem.Stmt.Assign _ (PySem.Expr.ListComp _ _ _ _) _) _) _ _ _)); (fail_if_success (with_reducible show LCt.CompSrcT _ _ _ _ _ _ _ _ _ _ _ _ _ _ _)); (fail_if_success (with_reducible show LCg.CompSrc _ _ _ _ _ _ _ _ _ _ _ _ _ _)); (fail_if_success (with_reducible show wpAny _ _ (compareOp CmpOp.Eq (Value.ref _) (Value.ref _)) _ _ _)); (fail_if_success (with_reducible show wpAny _ _ (compareOp CmpOp.NotEq (Value.ref _) (Value.ref _)) _ _ _)); (fail_if_success (with_reducible show wpAny _ _ (PySem.call (Value.builtin "str.count") _) _ _ _)); first | (k_unfold; (try dsimp only)) | (k_end; kc_close) | walk1 | (dsimp only; walk1) | (leave1; walk_say "STEP leave1"; (try dsimp only)) | fail "no step")
          k_dflt (refine' HB w mean mg mb ?zB ?zF ?zX ?zN ?zT ?zk (.tail _ (.tail _ hm)) hs (nm_len hn) hlen hms (room1 hd) (units1 hu) ?_)
          (case zB => k_asm)
          (case zF => k_asm)
          (case zX => k_asm)
          (case zN => k_asm)
          (case zT => k_asm)
          (case zk => exact rfl)
          intro t9 h9 tk9 F9 N9
          repeat' ((fail_if_success (with_reducible show wpAny _ _ (subscriptTail _ (PySem.Expr.Slice _ _ _ _) (Value.ref _) _) _ _ _)); (fail_if_success (with_reducible show wpAny _ _ (subscriptTail _ (PySem.Expr.Name _ _) (Value.ref _) _) _ _ _)); (fail_if_success (with_reducible show wpAny _ _ (PySem.call (Value.ref _) _) _ _ _)); (fail_if_success (with_reducible show wpAny _ _ (PySem.call (Value.builtin "len") _) _ _ _)); (fail_if_success (with_reducible show wpAny _ _ (PySem.call (Value.builtin "str.join") _) _ _ _)); (fail_if_success (with_reducible show wpAny _ _ (PySem.eval (PySem.Expr.ListComp _ _ _ _) _) _ _ _)); (fail_if_success (with_reducible show wpAny _ _ (PySem.exec (PySem.Stmt.Assign _ (PySem.Expr.ListComp _ _ _ _) _) _) _ _ _)); (fail_if_success (with_reducible show LCt.CompSrcT _ _ _ _ _ _ _ _ _ _ _ _ _ _ _)); (fail_if_success (with_reducible show LCg.CompSrc _ _ _ _ _ _ _ _ _ _ _ _ _ _)); (fail_if_success (with_reducible show wpAny _ _ (compareOp CmpOp.Eq (Value.ref _) (Value.ref _)) _ _ _)); (fail_if_success (with_reducible show wpAny _ _ (compareOp CmpOp.NotEq (Value.ref _) (Value.ref _)) _ _ _)); (fail_if_success (with_reducible show wpAny _ _ (PySem.call (Value.builtin "str.count") _) _ _ _)); first | (k_unfold; (try dsimp only)) | (k_end; kc_close) | walk1 | (dsimp only; walk1) | (leave1; walk_say "STEP leave1"; (try dsimp only)) | fail "no step")
          rename Fr h₀ L _ _ => kF9
          rename News h₀ L _ _ => kN9
          exact cb_retS (Q := Q) ret (due_many hz (by rw [hcn]; exact hc1)) kF9 (fun p hp => kN9 p (.tail _ (.tail _ hp)))
  clear HB HA
  (k_with "pyIter ref" => skip)
  (k_with "state" => first | exact Mine.inv_start (by assumption) | exact Mine.inv_turn (by assumption) (by assumption))
  k_go0
  all_goals (try k_fold)
  repeat' ((fail_if_success (with_reducible show wpAny _ _ (subscriptTail _ _ (Value.ref _) (Value.int (Int.fmod _ _) _)) _ _ _)); (fail_if_success (with_reducible show wpAny _ _ (PySem.call (Value.ref _) _) _ _ _)); (fail_if_success (with_reducible show wpAny _ _ (PySem.call (Value.builtin "list.append") _) _ _ _)); (fail_if_success (with_reducible show wpAny _ _ (compareOp CmpOp.NotEq (Value.str _ _) (Value.str _ _)) _ _ _)); (fail_if_success (with_reducible show wpAny _ _ (pyIter (Value.ref _)) _ _ _)); first | (k_unfold; (try dsimp only)) | (k_end; kc_close) | walk1 | (dsimp only; walk1) | (leave1; walk_say "STEP leave1"; (try dsimp only)) | fail "no step")
  rename News _ _ _ _ => NS
  k_here
  k_dflt (refine' pick_any (News.isList NS (.head _)) starts_all rfl (by decide) (by decide) ?_ ?zs)
  (case zs => with_unfolding_all rfl)
  intro st tst hst
  replace NS := news_only (news_drop NS)
  repeat' ((fail_if_success (with_reducible show wpAny _ _ (subscriptTail _ _ (Value.ref _) (Value.int (Int.fmod _ _) _)) _ _ _)); (fail_if_success (with_reducible show wpAny _ _ (PySem.call (Value.ref _) _) _ _ _)); (fail_if_success (with_reducible show wpAny _ _ (PySem.call (Value.builtin "list.append") _) _ _ _)); (fail_if_success (with_reducible show wpAny _ _ (compareOp CmpOp.NotEq (Value.str _ _) (Value.str _ _)) _ _ _)); (fail_if_success (with_reducible show wpAny _ _ (pyIter (Value.ref _)) _ _ _)); first | (k_unfold; (try dsimp only)) | (k_end; kc_close) | walk1 | (dsimp only; walk1) | (leave1; walk_say "STEP leave1"; (try dsimp only)) | fail "no step")
  rename News _ _ _ _ => NT
  replace NT := news_two NT
  k_state_given ["start"] (fun start pre name mods => Mine.Inv start pre name mods) "name" "modifiers$"
  rotate_left
  · repeat' ((fail_if_success (with_reducible show wpAny _ _ (subscriptTail _ _ (Value.ref _) (Value.int (Int.fmod _ _) _)) _ _ _)); (fail_if_success (with_reducible show wpAny _ _ (PySem.call (Value.ref _) _) _ _ _)); (fail_if_success (with_reducible show wpAny _ _ (PySem.call (Value.builtin "list.append") _) _ _ _)); (fail_if_success (with_reducible show wpAny _ _ (compareOp CmpOp.NotEq (Value.str _ _) (Value.str _ _)) _ _ _)); (fail_if_success (with_reducible show wpAny _ _ (pyIter (Value.ref _)) _ _ _)); first | (k_unfold; (try dsimp only)) | (k_end; kc_close) | walk1 | (dsimp only; walk1) | (leave1; walk_say "STEP leave1"; (try dsimp only)) | fail "no step")
  repeat' ((fail_if_success (with_reducible show wpAny _ _ (subscriptTail _ _ (Value.ref _) (Value.int (Int.fmod _ _) _)) _ _ _)); (fail_if_success (with_reducible show wpAny _ _ (PySem.call (Value.ref _) _) _ _ _)); (fail_if_success (with_reducible show wpAny _ _ (PySem.call (Value.builtin "list.append") _) _ _ _)); (fail_if_success (with_reducible show wpAny _ _ (compareOp CmpOp.NotEq (Value.str _ _) (Value.str _ _)) _ _ _)); (fail_if_success (with_reducible show wpAny _ _ (pyIter (Value.ref _)) _ _ _)); first | (k_unfold; (try dsimp only)) | (k_end; kc_close) | walk1 | (dsimp only; walk1) | (leave1; walk_say "STEP leave1"; (try dsimp only)) | fail "no step")
  rename News _ _ _ _ => NU
  k_here
  k_dflt (refine' pick_any (News.isList NU (.head _)) good_all rfl (by decide) (by decide) ?_ ?zt)
  (case zt => with_unfolding_all rfl)
  intro md td hG
  replace NU := news_drop NU
  repeat' ((fail_if_success (with_reducible show wpAny _ _ (subscriptTail _ _ (Value.ref _) (Value.int (Int.fmod _ _) _)) _ _ _)); (fail_if_success (with_reducible show wpAny _ _ (PySem.call (Value.ref _) _) _ _ _)); (fail_if_success (with_reducible show wpAny _ _ (PySem.call (Value.builtin "list.append") _) _ _ _)); (fail_if_success (with_reducible show wpAny _ _ (compareOp CmpOp.NotEq (Value.str _ _) (Value.str _ _)) _ _ _)); (fail_if_success (with_reducible show wpAny _ _ (pyIter (Value.ref _)) _ _ _)); first | (k_unfold; (try dsimp only)) | (k_end; kc_close) | walk1 | (dsimp only; walk1) | (leave1; walk_say "STEP leave1"; (try dsimp only)) | fail "no step")
  k_here
  k_dflt (refine' HP _ _ _ _ ?zB ?zF ?zX ?zN ?zT ?zk (inv_len (by assumption) (pre_le (by assumption))) hG.1 (inv_enc (by assumption)) (Nat.le_of_ble_eq_true rfl) (Nat.le_of_ble_eq_true rfl) ?_)
  (case zB => k_asm)
  (case zF => k_asm)
  (case zX => k_asm)
  (case zN => k_asm)
  (case zT => k_asm)
  (case zk => exact rfl)
  intro t9 h9 tk9 F9 N9
  repeat' ((fail_if_success (with_reducible show wpAny _ _ (subscriptTail _ _ (Value.ref _) (Value.int (Int.fmod _ _) _)) _ _ _)); (fail_if_success (with_reducible show wpAny _ _ (PySem.call (Value.ref _) _) _ _ _)); (fail_if_success (with_reducible show wpAny _ _ (PySem.call (Value.builtin "list.append") _) _ _ _)); (fail_if_success (with_reducible show wpAny _ _ (compareOp CmpOp.NotEq (Value.str _ _) (Value.str _ _)) _ _ _)); (fail_if_success (with_reducible show wpAny _ _ (pyIter (Value.ref _)) _ _ _)); first | (k_unfold; (try dsimp only)) | (k_end; kc_close) | walk1 | (dsimp only; walk1) | (leave1; walk_say "STEP leave1"; (try dsimp only)) | fail "no step")
  k_here
  k_dflt (refine' append_K ?y1 ?y2 ?y3 ?_ (inv_room (by assumption) (by assumption) (pre_le (by assumption))))
  (case y1 => k_asm)
  (case y2 => k_asm)
  (case y3 => k_upd)
  intro h8 F8 N8
  (try simp only [List.push_toArray] at N8)
  repeat' ((fail_if_success (with_reducible show wpAny _ _ (subscriptTail _ _ (Value.ref _) (Value.int (Int.fmod _ _) _)) _ _ _)); (fail_if_success (with_reducible show wpAny _ _ (PySem.call (Value.ref _) _) _ _ _)); (fail_if_success (with_reducible show wpAny _ _ (PySem.call (Value.builtin "list.append") _) _ _ _)); (fail_if_success (with_reducible show wpAny _ _ (compareOp CmpOp.NotEq (Value.str _ _) (Value.str _ _)) _ _ _)); (fail_if_success (with_reducible show wpAny _ _ (pyIter (Value.ref _)) _ _ _)); first | (k_unfold; (try dsimp only)) | (k_end; kc_close) | walk1 | (dsimp only; walk1) | (leave1; walk_say "STEP leave1"; (try dsimp only)) | fail "no step")
  k_here
  k_dflt (refine' HD _ _ _ _ ?xB ?xF ?xX N8 ?xT ?xk ?xm (strsAre_snoc (by assumption)) (inv_st (by assumption)) (inv_size (by assumption) (pre_le (by assumption))) (inv_each (by assumption) hG) (Nat.le_of_ble_eq_true rfl) (Nat.le_of_ble_eq_true rfl) ?_)
  (case xB => k_asm)
  (case xF => k_asm)
  (case xX => k_asm)
  (case xT => k_asm)
  (case xk => exact rfl)
  (case xm => k_memK)
  intro t7 h7 tk7 F7 N7
  repeat' ((fail_if_success (with_reducible show wpAny _ _ (subscriptTail _ _ (Value.ref _) (Value.int (Int.fmod _ _) _)) _ _ _)); (fail_if_success (with_reducible show wpAny _ _ (PySem.call (Value.ref _) _) _ _ _)); (fail_if_success (with_reducible show wpAny _ _ (PySem.call (Value.builtin "list.append") _) _ _ _)); (fail_if_success (with_reducible show wpAny _ _ (compareOp CmpOp.NotEq (Value.str _ _) (Value.str _ _)) _ _ _)); (fail_if_success (with_reducible show wpAny _ _ (pyIter (Value.ref _)) _ _ _)); first | (k_unfold; (try dsimp only)) | (k_end; kc_close) | walk1 | (dsimp only; walk1) | (leave1; walk_say "STEP leave1"; (try dsimp only)) | fail "no step")
  refine ne_known (inv_eq (by assumption) _) ?_
  repeat' ((fail_if_success (with_reducible show wpAny _ _ (subscriptTail _ _ (Value.ref _) (Value.int (Int.fmod _ _) _)) _ _ _)); (fail_if_success (with_reducible show wpAny _ _ (PySem.call (Value.ref _) _) _ _ _)); (fail_if_success (with_reducible show wpAny _ _ (PySem.call (Value.builtin "list.append") _) _ _ _)); (fail_if_success (with_reducible show wpAny _ _ (compareOp CmpOp.NotEq (Value.str _ _) (Value.str _ _)) _ _ _)); (fail_if_success (with_reducible show wpAny _ _ (pyIter (Value.ref _)) _ _ _)); first | (k_unfold; (try dsimp only)) | (k_end; kc_close) | walk1 | (dsimp only; walk1) | (leave1; walk_say "STEP leave1"; (try dsimp only)) | fail "no step")
