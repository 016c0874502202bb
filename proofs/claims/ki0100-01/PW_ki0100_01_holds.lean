import PyProof.Rows.All
import Wide.All
import OpenK.AllK
import Wide.FinOn
import Lean
import PySem.Challenge.RW_ki0100_01
open PySem PySem.W PyProof.Rows
set_option Elab.async false
set_option rowWalk.seconds 0
namespace Mine
set_option maxRecDepth 100000 in
set_option maxHeartbeats 8000000 in
open_top hd for PySem.Challenge.rw_ki0100_01
end Mine

-- Pure
theorem Mine.freshPure : True := by
  w_top off
  trivial
namespace Mine
/-- the signs' range -/
def Sg (x : Int) : Prop := (0 ≤ x ∧ x < 128) ∨ (19968 ≤ x ∧ x < 20224)
/-- what a change costs -/
def chg (a b : Int) : Int := if a = b then 0 else if (a - b).natAbs = 32 ∧ 65 ≤ min a b ∧ min a b ≤ 90 then 1 else 2
theorem chg_comm (a b : Int) : chg a b = chg b a := by
  unfold chg
  by_cases h : a = b
  · subst h; rfl
  · have h' : ¬ b = a := fun e => h e.symm
    simp only [if_neg h, if_neg h', Int.min_comm b a, show (b - a).natAbs = (a - b).natAbs by omega]
theorem chg_nonneg (a b : Int) : 0 ≤ chg a b := by unfold chg; (repeat' split) <;> omega
theorem chg_le (a b : Int) : chg a b ≤ 2 := by unfold chg; (repeat' split) <;> omega

/-- how many signs two words begin with in common -/
def pref : List Int → List Int → Nat
  | a :: as, b :: bs => if a = b then pref as bs + 1 else 0
  | _, _ => 0
theorem pref_le_left : ∀ a b : List Int, pref a b ≤ a.length
  | [], _ => by simp [pref]
  | _ :: _, [] => by simp [pref]
  | x :: a, y :: b => by
    unfold pref
    have := pref_le_left a b
    split <;> simp <;> omega
theorem pref_comm : ∀ a b : List Int, pref a b = pref b a
  | [], [] => rfl
  | [], _ :: _ => rfl
  | _ :: _, [] => rfl
  | x :: a, y :: b => by
    unfold pref
    rw [pref_comm a b]
    by_cases h : x = y
    · rw [if_pos h, if_pos h.symm]
    · rw [if_neg h, if_neg fun e => h e.symm]
theorem pref_le_right (a b : List Int) : pref a b ≤ b.length := by rw [pref_comm]; exact pref_le_left b a
theorem pref_lt : ∀ (a b : List Int) (i : Nat), i ≤ pref a b → (i < pref a b ↔ i < a.length ∧ i < b.length ∧ a.getD i 0 = b.getD i 0)
  | [], _, i, h => by simp [pref]
  | _ :: _, [], i, h => by simp [pref]
  | x :: a, y :: b, i, h => by
    unfold pref at h ⊢
    by_cases e : x = y
    · rw [if_pos e] at h ⊢
      cases i with
      | zero => simp [e]
      | succ i =>
        have := pref_lt a b i (by omega)
        simp only [List.length_cons, Nat.add_lt_add_iff_right, List.getD_cons_succ]
        exact this
    · rw [if_neg e] at h ⊢
      obtain rfl : i = 0 := by omega
      simp [e]
theorem pref_self : ∀ a : List Int, pref a a = a.length
  | [] => rfl
  | x :: a => by simp [pref, pref_self a]
/-- how many they end with in common -/
def sfx (a b : List Int) : Nat := pref a.reverse b.reverse
theorem sfx_le_left (a b : List Int) : sfx a b ≤ a.length := by have := pref_le_left a.reverse b.reverse; simpa [sfx] using this
theorem sfx_le_right (a b : List Int) : sfx a b ≤ b.length := by have := pref_le_right a.reverse b.reverse; simpa [sfx] using this
theorem sfx_comm (a b : List Int) : sfx a b = sfx b a := pref_comm _ _
theorem getD_rev (a : List Int) (j : Nat) (h : j < a.length) : a.reverse.getD j 0 = a.getD (a.length - 1 - j) 0 := by
  simp only [List.getD_eq_getElem?_getD, List.getElem?_reverse h]
theorem sfx_lt (a b : List Int) (j : Nat) (h : j ≤ sfx a b) : j < sfx a b ↔ j < a.length ∧ j < b.length ∧ a.getD (a.length - 1 - j) 0 = b.getD (b.length - 1 - j) 0 := by
  unfold sfx at h ⊢
  rw [pref_lt _ _ j h]
  simp only [List.length_reverse]
  constructor
  · rintro ⟨h1, h2, h3⟩
    rw [getD_rev a j h1, getD_rev b j h2] at h3
    exact ⟨h1, h2, h3⟩
  · rintro ⟨h1, h2, h3⟩
    rw [← getD_rev a j h1, ← getD_rev b j h2] at h3
    exact ⟨h1, h2, h3⟩
theorem take_last (a : List Int) (j : Nat) (h : j < a.length) : (a.take (a.length - j)).getD ((a.take (a.length - j)).length - 1) 0 = a.getD (a.length - 1 - j) 0 := by
  have e : (a.take (a.length - j)).length - 1 = a.length - 1 - j := by simp; omega
  rw [e]
  simp only [List.getD_eq_getElem?_getD, List.getElem?_take]
  rw [if_pos (by omega)]
theorem take_butlast (a : List Int) (j : Nat) : (a.take (a.length - j)).take ((a.take (a.length - j)).length - 1) = a.take (a.length - (j + 1)) := by
  rw [List.take_take, List.length_take, Nat.min_eq_left (Nat.sub_le _ _), Nat.sub_sub, Nat.min_eq_left (Nat.sub_le_sub_left (Nat.le_succ j) _)]
/-- the middles -/
def midL (a b : List Int) : List Int := (a.drop (pref a b)).take ((a.drop (pref a b)).length - sfx (a.drop (pref a b)) (b.drop (pref a b)))
def midR (a b : List Int) : List Int := (b.drop (pref a b)).take ((b.drop (pref a b)).length - sfx (a.drop (pref a b)) (b.drop (pref a b)))
theorem mid_comm (a b : List Int) : midL b a = midR a b := by unfold midL midR; rw [pref_comm b a, sfx_comm]
theorem mid_comm' (a b : List Int) : midR b a = midL a b := by unfold midL midR; rw [pref_comm b a, sfx_comm]
theorem midL_self (a : List Int) : midL a a = [] := by unfold midL; simp [pref_self]
theorem midR_self (a : List Int) : midR a a = [] := by unfold midR; simp [pref_self]
theorem midL_len (a b : List Int) : (midL a b).length ≤ a.length := by unfold midL; simp; omega
theorem midR_len (a b : List Int) : (midR a b).length ≤ b.length := by unfold midR; simp; omega

/-- the least cost of making the one beginning of the other -/
def D (c : Nat → Nat → Int) : Nat → Nat → Int
  | 0, j => 2 * (j : Int)
  | i + 1, 0 => 2 * ((i : Int) + 1)
  | i + 1, j + 1 => min (min (D c i (j + 1)) (D c (i + 1) j) + 2) (D c i j + c i j)
termination_by i j => i + j
theorem D_zero (c : Nat → Nat → Int) (j : Nat) : D c 0 j = 2 * (j : Int) := by rw [D]
theorem D_zero' (c : Nat → Nat → Int) (i : Nat) : D c i 0 = 2 * (i : Int) := by
  cases i with
  | zero => rw [D]
  | succ i => rw [D]; omega
theorem D_succ (c : Nat → Nat → Int) (i j : Nat) : D c (i + 1) (j + 1) = min (min (D c i (j + 1)) (D c (i + 1) j) + 2) (D c i j + c i j) := by rw [D]
/-- the same from the other side -/
theorem D_flip (c : Nat → Nat → Int) : ∀ (n i j : Nat), i + j = n → D c i j = D (fun a b => c b a) j i := by
  intro n
  induction n using Nat.strongRecOn with
  | ind n ih =>
    intro i j e
    cases i with
    | zero => rw [D_zero, D_zero']
    | succ i => cases j with
      | zero => rw [D_zero, D_zero']
      | succ j =>
        rw [D_succ, D_succ, ih (i + (j + 1)) (by omega) i (j + 1) rfl, ih (i + 1 + j) (by omega) (i + 1) j rfl, ih (i + j) (by omega) i j rfl, Int.min_comm (D _ (j + 1) i)]
theorem D_lower (c : Nat → Nat → Int) (hc : ∀ i j, 0 ≤ c i j) : ∀ (n i j : Nat), i + j = n → 2 * (i : Int) - 2 * j ≤ D c i j ∧ 2 * (j : Int) - 2 * i ≤ D c i j ∧ 0 ≤ D c i j := by
  intro n
  induction n using Nat.strongRecOn with
  | ind n ih =>
    intro i j e
    cases i with
    | zero => rw [D_zero]; omega
    | succ i => cases j with
      | zero => rw [D_zero']; omega
      | succ j =>
        rw [D_succ]
        have h1 := ih (i + (j + 1)) (by omega) i (j + 1) rfl
        have h2 := ih (i + 1 + j) (by omega) (i + 1) j rfl
        have h3 := ih (i + j) (by omega) i j rfl
        have h4 := hc i j
        omega
theorem D_upper (c : Nat → Nat → Int) : ∀ (n i j : Nat), i + j = n → D c i j ≤ 2 * ((i : Int) + j) := by
  intro n
  induction n using Nat.strongRecOn with
  | ind n ih =>
    intro i j e
    cases i with
    | zero => rw [D_zero]; omega
    | succ i => cases j with
      | zero => rw [D_zero']; omega
      | succ j =>
        rw [D_succ]
        have h1 := ih (i + (j + 1)) (by omega) i (j + 1) rfl
        omega
/-- a row in which all cost too much -/
def far (c : Nat → Nat → Int) (lx : Nat) (mc : Int) (j : Nat) : Bool := (List.range lx).all fun k => decide (mc < D c (j + 1) (k + 1))
def levRows (c : Nat → Nat → Int) (ly lx : Nat) (mc : Int) : Int := if (List.range ly).any (far c lx mc) = true then mc + 1 else D c ly lx
def cst (x y : List Int) (j i : Nat) : Int := chg (y.getD j 0) (x.getD i 0)
def levPair (x y : List Int) (mc : Int) : Int := if mc < ((y.length : Int) - x.length) * 2 then mc + 1 else levRows (cst x y) y.length x.length mc
def lev (la lb : List Int) (mc : Int) : Int :=
  if midL la lb = [] ∨ midR la lb = [] then 2 * (((midL la lb).length : Int) + (midR la lb).length)
  else if 40 < (midL la lb).length ∨ 40 < (midR la lb).length then mc + 1
  else if (midR la lb).length < (midL la lb).length then levPair (midR la lb) (midL la lb) mc else levPair (midL la lb) (midR la lb) mc
/-- a row of the reckoning; the same halfway -/
def rowAt (c : Nat → Nat → Int) (j n : Nat) : List Int := (List.range n).map fun k => D c j (k + 1)
def rowMix (c : Nat → Nat → Int) (j n i : Nat) : List Int := (List.range n).map fun k => if k < i then D c (j + 1) (k + 1) else D c j (k + 1)
theorem rowAt_zero (c : Nat → Nat → Int) (n : Nat) : (List.range n).map (fun i : Nat => 2 * ((i : Int) + 1)) = rowAt c 0 n := by
  unfold rowAt
  refine List.map_congr_left fun k _ => ?_
  rw [D_zero]; omega
theorem rowMix_zero (c : Nat → Nat → Int) (j n : Nat) : rowMix c j n 0 = rowAt c j n := by
  unfold rowMix rowAt
  refine List.map_congr_left fun k _ => ?_
  rw [if_neg (Nat.not_lt_zero k)]
theorem rowMix_end (c : Nat → Nat → Int) (j n : Nat) : rowMix c j n n = rowAt c (j + 1) n := by
  unfold rowMix rowAt
  refine List.map_congr_left fun k hk => ?_
  rw [if_pos (List.mem_range.mp hk)]
theorem rowMix_len (c : Nat → Nat → Int) (j n i : Nat) : (rowMix c j n i).length = n := by simp [rowMix]
theorem rowMix_get (c : Nat → Nat → Int) (j n i : Nat) (h : i < n) : (rowMix c j n i).getD i 0 = D c j (i + 1) := by
  simp [rowMix, h]
theorem rowMix_set (c : Nat → Nat → Int) (j n i : Nat) (h : i < n) : (rowMix c j n i).set i (D c (j + 1) (i + 1)) = rowMix c j n (i + 1) := by
  apply List.ext_getElem
  · simp [rowMix]
  · intro k h1 h2
    simp only [List.getElem_set, rowMix, List.getElem_map, List.getElem_range]
    by_cases e : i = k
    · subst e; simp
    · rw [if_neg e]
      by_cases e2 : k < i
      · rw [if_pos e2, if_pos (by omega)]
      · rw [if_neg e2, if_neg (by omega)]
/-- a square of the reckoning, as the text does it -/
theorem cell_eq (c : Nat → Nat → Int) (hc : ∀ i j, c i j ≤ 2) (j i : Nat) (r : Int) (hr : r = if i = 0 then D c j 0 else D c (j + 1) i) :
    min (min r (D c j (i + 1)) + 2) (D c j i + c j i) = D c (j + 1) (i + 1) := by
  rw [D_succ, hr, Int.min_comm (D c j (i + 1))]
  by_cases e : i = 0
  · subst e
    rw [if_pos rfl, D_zero' c j, D_zero' c (j + 1)]
    have := hc j 0
    omega
  · rw [if_neg e]
/-- what the least of a row's first i squares is -/
def MinOf (c : Nat → Nat → Int) (j i : Nat) (mn : Int) : Prop := (∀ k, k < i → mn ≤ D c (j + 1) (k + 1)) ∧ ((i = 0 ∧ mn = 9223372036854775807) ∨ ∃ k, k < i ∧ mn = D c (j + 1) (k + 1))
theorem MinOf.next {c : Nat → Nat → Int} {j i : Nat} {mn mn' : Int} (h : MinOf c j i mn) (hs : D c (j + 1) (i + 1) < 9223372036854775807) (e : mn' = if D c (j + 1) (i + 1) < mn then D c (j + 1) (i + 1) else mn) : MinOf c j (i + 1) mn' := by
  obtain ⟨h1, h2⟩ := h
  by_cases q : D c (j + 1) (i + 1) < mn
  · rw [if_pos q] at e
    refine ⟨fun k hk => ?_, .inr ⟨i, by omega, e⟩⟩
    by_cases hk' : k = i
    · subst hk'; omega
    · have := h1 k (by omega); omega
  · rw [if_neg q] at e
    refine ⟨fun k hk => ?_, ?_⟩
    · by_cases hk' : k = i
      · subst hk'; omega
      · have := h1 k (by omega); omega
    · rcases h2 with ⟨h0, h2⟩ | ⟨k, hk, h2⟩
      · omega
      · exact .inr ⟨k, by omega, by omega⟩
theorem MinOf.far {c : Nat → Nat → Int} {j n : Nat} {mn mc : Int} (h : MinOf c j n mn) (hn : 0 < n) : far c n mc j = decide (mc < mn) := by
  obtain ⟨h1, h2⟩ := h
  rcases h2 with ⟨h0, _⟩ | ⟨k, hk, h2⟩
  · omega
  · by_cases q : mc < mn
    · rw [decide_eq_true q]
      unfold Mine.far
      rw [List.all_eq_true]
      intro i hi
      have := h1 i (List.mem_range.mp hi)
      exact decide_eq_true (by omega)
    · rw [decide_eq_false q]
      unfold Mine.far
      rw [List.all_eq_false]
      exact ⟨k, List.mem_range.mpr hk, by simp; omega⟩
theorem levRows_end {c : Nat → Nat → Int} {ly lx : Nat} {mc : Int} (h : ∀ j, j < ly → far c lx mc j = false) : levRows c ly lx mc = D c ly lx := by
  unfold levRows
  rw [if_neg]
  rw [Bool.not_eq_true, List.any_eq_false]
  intro j hj
  rw [h j (List.mem_range.mp hj)]
  exact Bool.false_ne_true
theorem levRows_far {c : Nat → Nat → Int} {ly lx j : Nat} {mc : Int} (hj : j < ly) (h : far c lx mc j = true) : levRows c ly lx mc = mc + 1 := by
  unfold levRows
  rw [if_pos]
  exact List.any_eq_true.mpr ⟨j, List.mem_range.mpr hj, h⟩
theorem cst_le (x y : List Int) (i j : Nat) : cst x y i j ≤ 2 := chg_le _ _
theorem cst_nonneg (x y : List Int) (i j : Nat) : 0 ≤ cst x y i j := chg_nonneg _ _
end Mine

-- Inf
theorem Mine.freshInf : True := by
  w_top off
  trivial
namespace Mine

/-- everything that stood stands -/
abbrev Stay (h h' : Heap) : Prop := ∀ b o, h.get? b = some o → h'.get? b = some o
/-- the objects that are new against h -/
abbrev NewIn (h h' : Heap) (l : List (Addr × Obj)) : Prop := ∀ q ∈ l, h'.get? q.1 = some q.2 ∧ h.get? q.1 = none

/-- a goal that the walk leaves alone -/
def Hold (P : Prop) : Prop := P
theorem Hold.out {P : Prop} (h : Hold P) : P := h
/-- what a body comes to -/
def Out (H : Heap) (R : Value → List (Addr × Obj) → Prop) (s : Shared) (fl : Flow) (s' : Shared) : Prop :=
  ∃ L' m' new h' tk', s' = { s with heap := h', toks := tk' } ∧ Fr H L' h' m' ∧ News H L' h' new ∧ R (match fl with | .ret v => v | _ => .none) new

theorem Out.ret {H : Heap} {R : Value → List (Addr × Obj) → Prop} {s : Shared} {v : Value} {L' : Addr} {m' : Str → Option Value} {new news : List (Addr × Obj)} {h' : Heap} {tk' : Nat}
    (F : Fr H L' h' m') (N : News H L' h' news) (hs : ∀ q ∈ new, q ∈ news) (hR : R v new) : Out H R s (.ret v) { s with heap := h', toks := tk' } :=
  ⟨L', m', new, h', tk', rfl, F, fun q hq => N q (hs q hq), hR⟩

theorem retI {x y : Int} {t : Tok} (e : x = y) : ∃ t', Value.int x t = Value.int y t' := ⟨t, by rw [e]⟩
/-- a call's contract: it changes nothing that stood, and hands back a value with R -/
def Spec (prog : Program) (w : World) (p : Program) (loose : List Str) (mean : ExcName → Option Value) (mg mb : Str → Option Value) (f : Addr) (vs : List Value) (H : Heap) (R : Value → List (Addr × Obj) → Prop) (deep : Nat) : Prop :=
  ∀ (dp un : Nat) (gd : Option (List Code)) (cn : Str) (cs : Scope) (a : Addr) (ccd : Value) (cl : List (Str × Addr)) (outer : List Env) (A₀ : Around) (base h₀ : Heap) (L : Addr) (m : Str → Option Value) (s : Shared) (Q E : Value → Shared → Prop),
    s.heap = H → Below A₀ base outer h₀ → Fr h₀ L s.heap m → (hd.heap_39 w.params).In h₀ → Top p loose mean mg mb h₀ → cs.kind = .function → dp + deep < 500 → un + 20 * deep < 5000 →
    (∀ v h' tk' new, Stay s.heap h' → NewIn s.heap h' new → R v new → Q v { s with heap := h', toks := tk' }) →
    wpAny (model prog w) (ktrTop dp un gd cn cs L a ccd cl outer) (call (.ref f) vs) Q E s

section
variable {prog : Program} {w : World} {p : Program} {loose : List Str} {mean : ExcName → Option Value} {mg mb : Str → Option Value}

theorem fr_stay {h₀ h h' : Heap} {L : Addr} {m : Str → Option Value} (F : Fr h₀ L h m) (k : Stay h h') : Fr h₀ L h' m :=
  ⟨F.ns.keeps k, fun b o e => k b o (F.keep b o e), F.above⟩
theorem news_stay {h₀ h h' : Heap} {L : Addr} {m : Str → Option Value} {news new : List (Addr × Obj)} (F : Fr h₀ L h m) (N : News h₀ L h news) (k : Stay h h') (n : NewIn h h' new) : News h₀ L h' (new ++ news) := by
  intro q hq
  rcases List.mem_append.mp hq with hq | hq
  · refine ⟨(n q hq).1, fun e => ?_, ?_⟩
    · obtain ⟨o, _, _, ho, _⟩ := F.ns
      have := (n q hq).2; rw [e, ho] at this; cases this
    · cases z : h₀.get? q.1 with
      | none => rfl
      | some o => have := (n q hq).2; rw [F.keep _ _ z] at this; cases this
  · exact ⟨k _ _ (N q hq).1, (N q hq).2⟩

theorem append_L {A : Around} {E : Value → Shared → Prop} {s : Shared} {h₀ : Heap} {L D : Addr} {m : Str → Option Value} {news news' : List (Addr × Obj)} {vs : List Value} {n : Nat} {x : Value} {Q : Value → Shared → Prop}
    (F : Fr h₀ L s.heap m) (N : News h₀ L s.heap news) (U : Upd D (W.listOf vs.toArray n) (W.listOf (vs ++ [x]).toArray (n + 1)) news news')
    (h : ∀ h', Fr h₀ L h' m → News h₀ L h' news' → Q .none { s with heap := h' }) (hsz : vs.length ≤ sizeLine) : wpAny (model prog w) A (call (.builtin "list.append") [.ref D, x]) Q E s :=
  append_K F N (by rw [show vs.toArray.push x = (vs ++ [x]).toArray by simp]; exact U) h (by simpa using hsz)
theorem kst_endA {σ : Type} {x : Str} {h₀ : Heap} {Led : σ → List (Addr × Obj)} {ps : σ → List (Str × Value)} {Facts : σ → Prop} {stored : List Str} {m₀ : Str → Option Value} {P : List Int → σ → Prop} {pre : List Int} (c : σ) {L : Addr} {m' : Str → Option Value} {own : List (Addr × Obj)} {adr : List Addr} {s₁ : Shared} {h' : Heap} {tk : Nat}
    (F : Fr h₀ L h' m') (N : News h₀ L h' (Led c ++ own)) (ha : (Led c).map (·.1) = adr) (hf : Facts c) (hk : ∀ p ∈ ps c, m' p.1 = some p.2) (hr : ∀ z, z ≠ x → (∀ p ∈ ps c, z ≠ p.1) → stored.contains z = false → m' z = m₀ z) (hp : P pre c) :
    InvEndN h₀ L (KstS Led ps Facts x stored m₀ P pre) own adr s₁ { s₁ with heap := h', toks := tk } :=
  kst_end c F N (fun _ h => List.mem_append_left _ h) (fun _ h => List.mem_append_right _ h) ha hf hk hr hp
theorem range_fits {b : Int} {n : Nat} (hb : b = (n : Int)) (hn : n < 1000000) : Builtin.Range.small 0 b 1 = true ∧ Builtin.Range.rangeSize 0 b 1 = (n : Int) := by
  subst hb
  have e : Builtin.Range.rangeSize 0 (n : Int) 1 = (n : Int) := by
    unfold Builtin.Range.rangeSize
    simp only [Int.ediv_one]
    (repeat' split) <;> omega
  refine ⟨?_, e⟩
  unfold Builtin.Range.small
  rw [e]
  unfold Builtin.Range.rangeFitsLong
  simp only [Bool.and_eq_true, decide_eq_true_eq, Bool.or_eq_true, beq_iff_eq, gt_iff_lt, Int.reduceLT, if_true]
  omega
theorem for_range {A : Around} {E : Value → Shared → Prop} {s : Shared} {env : Env} {h₀ : Heap} {x : Str} {body : List Stmt} {Q : Flow → Shared → Prop} {σ : Type} {r : Addr} {b₀ : Int} {t₀ u₀ v₀ : Tok} {m₀ : Str → Option Value} (n : Nat) (Led : σ → List (Addr × Obj)) (ps : σ → List (Str × Value)) (Facts : σ → Prop) (stored : List Str) (P : Nat → σ → Prop) (c₀ : σ)
    (hh : A.handled = none) (hr : IsRange s.heap r 0 b₀ 1 t₀ u₀ v₀) (hb : b₀ = (n : Int)) (hn : n < 1000000) (F : Fr h₀ env.locals s.heap m₀) (N : News h₀ env.locals s.heap (Led c₀)) (hf : Facts c₀) (hk : ∀ p ∈ ps c₀, m₀ p.1 = some p.2) (hp : P 0 c₀)
    (turn : ∀ (c : σ) (i : Nat) (pre : List Int) t (u : Str → Option Value) h tk own, i = pre.length → i < n → OwnOff own ((Led c₀).map (·.1)) → Facts c → P i c →
      Fr h₀ env.locals h (fun y => if y = x then some (.int (i : Int) t) else kstB (fun z => if stored.contains z then u z else m₀ z) (ps c) y) → News h₀ env.locals h (Led c ++ own) →
      wpAny (model prog w) A (execs body env) (InvPostN h₀ env.locals (KstS Led ps Facts x stored m₀ (fun pre c => P pre.length c) (pre ++ [(i : Int)])) own ((Led c₀).map (·.1)) { s with heap := h, toks := tk } Q) E { s with heap := h, toks := tk })
    (done : ∀ (c : σ) (u : Str → Option Value) h tk, Facts c → P n c → Fr h₀ env.locals h (fun y => if y = x then u y else kstB (fun z => if stored.contains z then u z else m₀ z) (ps c) y) → News h₀ env.locals h (Led c) → Q .next { s with heap := h, toks := tk }) :
    wpAny (model prog w) A (pyIter (.ref r)) (fun it s₂ => LoopAtV prog w A h₀ env x body Q E it s₂) E s :=
  kst_range Led ps Facts stored (fun pre c => P pre.length c) c₀ hh hr (range_fits hb hn).1 (range_fits hb hn).2 F N hf hk hp
    (fun c pre k t u h tk own e hlt ho hf' hp' F' N' => by
      have e' : k = (pre.length : Int) := by omega
      subst e'
      exact turn c pre.length pre t u h tk own rfl hlt ho hf' hp' F' N')
    (fun c u h tk hf' hp' F' N' => done c u h tk hf' (by rw [rangeKs_length] at hp'; exact hp') F' N')
/-- a while's one way out -/
def Exit {σ : Type} (h₀ : Heap) (L : Addr) (s : Shared) (Led : σ → List (Addr × Obj)) (ps : σ → List (Str × Value)) (stored : List Str) (m₀ : Str → Option Value) (B : σ → Prop) (c : σ) (s₂ : Shared) : Prop :=
  ∃ (u : Str → Option Value) (h : Heap) (tk : Nat), s₂ = { s with heap := h, toks := tk } ∧ Fr h₀ L h (kstB (fun z => if stored.contains z then u z else m₀ z) (ps c)) ∧ News h₀ L h (Led c) ∧ B c
theorem Exit.intro {σ : Type} {h₀ : Heap} {L : Addr} {s : Shared} {Led : σ → List (Addr × Obj)} {ps : σ → List (Str × Value)} {stored : List Str} {m₀ u : Str → Option Value} {B : σ → Prop} {c : σ} {h : Heap} {tk : Nat}
    (F : Fr h₀ L h (kstB (fun z => if stored.contains z then u z else m₀ z) (ps c))) (N : News h₀ L h (Led c)) (b : B c) : Exit h₀ L s Led ps stored m₀ B c { s with heap := h, toks := tk } := ⟨u, h, tk, rfl, F, N, b⟩
theorem while_one {A : Around} {E : Value → Shared → Prop} {Q : Flow → Shared → Prop} {s : Shared} {env : Env} {h₀ : Heap} {L : Addr} {σ : Type} {test : Expr} {body : List Stmt} {pos : Pos} {m₀ : Str → Option Value} (Led : σ → List (Addr × Obj)) (ps : σ → List (Str × Value)) (Facts : σ → Prop) (stored : List Str) (P : σ → Prop) (μ : σ → Nat) (B : σ → Prop) (c₀ : σ)
    (F : Fr h₀ L s.heap m₀) (N : News h₀ L s.heap (Led c₀)) (hf : Facts c₀) (hk : ∀ p ∈ ps c₀, m₀ p.1 = some p.2) (hp : P c₀)
    (turn : ∀ (c : σ) (u : Str → Option Value) h tk, Facts c → P c → Fr h₀ L h (kstB (fun z => if stored.contains z then u z else m₀ z) (ps c)) → News h₀ L h (Led c) →
      wpAny (model prog w) A (isTrue test env (eval test env)) (fun b s₂ =>
        if b = true then wpAny (model prog w) A (execs body env) (KswPost h₀ L s Led ps Facts stored m₀ P μ (fun _ _ => False) c) E s₂ else Exit h₀ L s Led ps stored m₀ B c s₂) E { s with heap := h, toks := tk })
    (done : ∀ (c : σ) (u : Str → Option Value) h tk, Facts c → P c → B c → Fr h₀ L h (kstB (fun z => if stored.contains z then u z else m₀ z) (ps c)) → News h₀ L h (Led c) → Q .next { s with heap := h, toks := tk })
    (hE : PassesOwn (model prog w) A env E := by passes_own) :
    wpAny (model prog w) A (exec (.While test body [] pos) env) Q E s := by
  refine wpAny_mono (ksw_while (Q := fun f s' => ∃ c, f = .next ∧ Facts c ∧ P c ∧ Exit h₀ L s Led ps stored m₀ B c s') Led ps Facts stored P μ c₀ F N hf hk hp (fun c u h tk hf' hp' F' N' => ?_) hE) (fun f s' h => ?_) fun _ _ x => x
  · refine wpAny_mono (turn c u h tk hf' hp' F' N') (fun b s₂ q => ?_) fun _ _ x => x
    cases b with
    | false => exact ⟨c, rfl, hf', hp', q⟩
    | true =>
      refine wpAny_mono q (fun f s₃ q => ?_) fun _ _ x => x
      cases f with
      | ret v => exact q.elim
      | brk => exact q.elim
      | next => exact q
      | cont => exact q
  · obtain ⟨c, rfl, hf', hp', u, h, tk, rfl, F', N', b⟩ := h
    exact done c u h tk hf' hp' b F' N'
theorem fr_over {h₀ h : Heap} {L : Addr} {m : Str → Option Value} {k : Str} {v : Value} (e : m k = some v) (F : Fr h₀ L h m) : Fr h₀ L h (fun z => if z = k then some v else m z) := by
  have q : (fun z => if z = k then some v else m z) = m := funext fun z => by
    by_cases hz : z = k
    · rw [if_pos hz, hz, e]
    · rw [if_neg hz]
  rw [q]; exact F
theorem cut_next {M : Model} {A : Around} {E : Value → Shared → Prop} {s : Shared} {t : Sem Flow} {Q : Flow → Shared → Prop} (I : Shared → Prop) (h1 : wpAny M A t (fun f s' => Hold (f = .next ∧ I s')) E s) (h2 : ∀ s', I s' → Q .next s') : wpAny M A t Q E s :=
  wpAny_mono h1 (fun _ s' h => by obtain ⟨rfl, h⟩ := h; exact h2 s' h) fun _ _ x => x
/-- a contract at a call -/
theorem Spec.use {f : Addr} {vs : List Value} {R : Value → List (Addr × Obj) → Prop} {deep : Nat} {dp un : Nat} {gd : Option (List Code)} {cn : Str} {cs : Scope} {a : Addr} {ccd : Value} {cl : List (Str × Addr)} {outer : List Env} {A₀ : Around} {base h₀ : Heap} {L : Addr} {m : Str → Option Value} {s : Shared} {Q E : Value → Shared → Prop} {news : List (Addr × Obj)}
    (S : Spec prog w p loose mean mg mb f vs s.heap R deep) (B : Below A₀ base outer h₀) (F : Fr h₀ L s.heap m) (X : (hd.heap_39 w.params).In h₀) (N : News h₀ L s.heap news) (T : Top p loose mean mg mb h₀) (hk : cs.kind = .function) (hd : dp + deep < 500) (hu : un + 20 * deep < 5000)
    (k : ∀ v h' tk' new, Fr h₀ L h' m → News h₀ L h' (new ++ news) → R v new → Q v { s with heap := h', toks := tk' }) :
    wpAny (model prog w) (ktrTop dp un gd cn cs L a ccd cl outer) (call (.ref f) vs) Q E s :=
  S _ _ _ _ _ _ _ _ _ _ _ _ _ _ s Q E rfl B F X T hk hd hu fun v h' tk' new h1 h2 h3 => k v h' tk' new (fr_stay F h1) (news_stay F N h1 h2) h3

/-- entering a def over the caller's whole heap -/
theorem Spec.enter {f : Addr} {vs : List Value} {H : Heap} {R : Value → List (Addr × Obj) → Prop} {deep : Nat} {name qual : Str} {params : Arguments} {body : List Stmt} {scope : Scope} {dV kV doc pm cdv ct oc : Value} {an od : Option Addr} {osl : Array (Option Value)} {binds : List (Str × Value)}
    (ho : (hd.heap_39 w.params).lookup f = some ⟨oc, od, .func (fnOf name qual params body scope dV kV doc pm an cdv ct), osl⟩) (hcd : codeIn (hd.heap_39 w.params) cdv qual = true)
    (hbind : ∀ s, BindsTo s (fnOf name qual params body scope dV kV doc pm an cdv ct) ⟨vs, []⟩ binds) (hloc : ∀ y ∈ binds, scope.names.lookup y.1 = some .local)
    (hco : scope.isCoroutine = false) (hgen : scope.isGenerator = false) (hk : scope.kind = .function) (hcell : ∀ x ∈ scope.names, x.2 ≠ .cell) (hdeep : 0 < deep)
    (h : ∀ (dp un : Nat) (gd : Option (List Code)) (outer : List Env) (A₀ : Around) (base : Heap) (L' : Addr) (h₁ : Heap) (s : Shared), Below A₀ base outer H → Fr H L' h₁ (fun y => binds.reverse.lookup y) → News H L' h₁ [] → (hd.heap_39 w.params).In H → Top p loose mean mg mb H → dp + deep < 501 → un + 20 * deep < 5003 →
      wpAny (model prog w) (ktrTop dp un gd qual scope L' f cdv [] outer) (execs body (envOf qual scope L' f cdv)) (Out H R s) (fun _ _ => False) { s with heap := h₁ }) :
    Spec prog w p loose mean mg mb f vs H R deep := by
  intro dp un gd cn cs a ccd cl outer A₀ base h₀ L m s Q E e B F X T hk' hd hu k
  subst e
  refine wpAny_call (codeAny_call_def (fd := fnOf name qual params body scope dV kV doc pm an cdv ct) (body := body) (binds := binds) (by show dp < recursionLimit; unfold recursionLimit; omega) (X.keeps F.keep _ _ ho) rfl (T.nolimit.keeps F.keep) (codeRec_of (X.keeps F.keep) hcd) rfl (hbind s) hcell hloc (fun h₁ hns hk₁ => ?_) hco hgen hk)
  have B₁ := pushX (env := envX cn cs L a ccd cl) B F rfl hk'
  have F₁ : Fr s.heap s.heap.objs.size h₁ (fun y => binds.reverse.lookup y) := ⟨hns, hk₁, Nat.le_refl _⟩
  refine wpAny_mono (h (dp + 1) (un + 3) gd (envX cn cs L a ccd cl :: outer) _ base s.heap.objs.size h₁ { s with toks := s.toks + binds.length } B₁ F₁ News.nil (X.keeps F.keep) (T.keeps F.keep) (by omega) (by omega)) (fun fl s' hl => ?_) fun _ _ x => x.elim
  obtain ⟨L', m', new, h', tk', rfl, F', N', hR⟩ := hl
  exact k _ h' tk' new (fun b o e => F'.keep b o e) (fun q hq => ⟨(N' q hq).1, (N' q hq).2.2⟩) hR
end
end Mine

-- Wsign
theorem Mine.freshWsign : True := by
  w_top off
  trivial
namespace Mine
def sgn (f : Int) : Int :=
  let more := Int.fdiv f 4
  if Int.fmod f 4 = 0 then 97 + Int.fmod more 3
  else if Int.fmod f 4 = 1 then 65 + Int.fmod more 3
  else if Int.fmod f 4 = 2 then Int.fmod more 128
  else 19968 + more

section
variable {prog : Program} {w : World} {p : Program} {loose : List Str} {mean : ExcName → Option Value} {mg mb : Str → Option Value}
set_option maxRecDepth 100000 in
set_option maxHeartbeats 8000000 in
theorem sign_call (f : Int) (tf : Tok) (H : Heap) : Spec prog w p loose mean mg mb 35 [.int f tf] H (fun v new => (∃ t, v = .int (sgn f) t) ∧ new = []) 1 := by
  refine Spec.enter (f := 35) (by k_is) (by k_is) (fun s => BindsTo.of_eq rfl) (locs rfl) rfl rfl rfl (by decide) (by decide) ?_
  intro dp un gd outer A₀ base L' h₁ s B F N X T hdp hun
  k_fold
  k_steps
  all_goals (refine Out.ret (by assumption) (by assumption) (fun q hq => hq) ⟨retI ?_, rfl⟩)
  all_goals (unfold sgn; simp_all)
theorem Spec.weaken {f : Addr} {vs : List Value} {H : Heap} {R R' : Value → List (Addr × Obj) → Prop} {k : Nat} (S : Spec prog w p loose mean mg mb f vs H R k) (h : ∀ v n, R v n → R' v n) : Spec prog w p loose mean mg mb f vs H R' k :=
  fun dp un gd cn cs a ccd cl outer A₀ base h₀ L m s Q E e B F X T hk hd hu g => S dp un gd cn cs a ccd cl outer A₀ base h₀ L m s Q E e B F X T hk hd hu fun v h' tk' new h1 h2 h3 => g v h' tk' new h1 h2 (h v new h3)
theorem sg_sgn {f : Int} (h0 : 0 ≤ f) (h1 : f < 1024) : Sg (sgn f) := by
  unfold Sg sgn
  have e1 : Int.fmod f 4 = f % 4 := Int.fmod_eq_emod_of_nonneg f (by omega)
  have e2 : Int.fdiv f 4 = f / 4 := Int.fdiv_eq_ediv_of_nonneg f (by omega)
  have e3 : Int.fmod (f / 4) 3 = f / 4 % 3 := Int.fmod_eq_emod_of_nonneg _ (by omega)
  have e4 : Int.fmod (f / 4) 128 = f / 4 % 128 := Int.fmod_eq_emod_of_nonneg _ (by omega)
  dsimp only
  rw [e1, e2, e3, e4]
  (repeat' split) <;> omega
theorem sign_any (g : Int) (tf : Tok) (H : Heap) : Spec prog w p loose mean mg mb 35 [.int (g.fmod 1024) tf] H (fun v new => (∃ x t, v = .int x t ∧ Sg x) ∧ new = []) 1 :=
  (sign_call _ tf H).weaken fun v n h => ⟨let ⟨t, e⟩ := h.1; ⟨_, t, e, sg_sgn (fmod_lo g (by omega)) (fmod_hi g (by omega))⟩, h.2⟩
end
end Mine

-- Wwords
theorem Mine.freshWwords : True := by
  w_top off
  trivial
namespace Mine

theorem sg_app {a : List Int} {y : Int} (h : ∀ x ∈ a, Sg x) (hy : Sg y) : ∀ x ∈ a ++ [y], Sg x := by
  intro x hx
  rcases List.mem_append.mp hx with hx | hx
  · exact h x hx
  · rw [List.mem_singleton.mp hx]; exact hy
theorem words_p {a b a' b' pre : List Int} {n : Int} (h1 : ∀ x ∈ a', Sg x) (h2 : ∀ x ∈ b', Sg x) (h3 : a.length ≤ 20 * pre.length) (h4 : b.length ≤ pre.length) (h5 : a'.length ≤ a.length + 20) (h6 : b'.length ≤ b.length + 1) :
    (∀ x ∈ a', Sg x) ∧ (∀ x ∈ b', Sg x) ∧ a'.length ≤ 20 * (pre ++ [n]).length ∧ b'.length ≤ (pre ++ [n]).length :=
  ⟨h1, h2, by simp; omega, by simp; omega⟩
theorem four (j : Nat) : ∃ k : Nat, ([1, 1, 2, 20] : List Int).getD j 0 = (k : Int) ∧ k ≤ 20 := by
  match j with
  | 0 => exact ⟨1, rfl, by omega⟩
  | 1 => exact ⟨1, rfl, by omega⟩
  | 2 => exact ⟨2, rfl, by omega⟩
  | 3 => exact ⟨20, rfl, by omega⟩
  | j + 4 => exact ⟨0, rfl, by omega⟩
theorem sg_xor_a : ∀ k : Fin 128, decide (0 ≤ Builtin.bitXor ((k.val : Nat) : Int) 32 ∧ Builtin.bitXor ((k.val : Nat) : Int) 32 < 128) = true := by decide +kernel
theorem sg_xor_b : ∀ k : Fin 256, decide (19968 ≤ Builtin.bitXor ((k.val : Nat) + 19968 : Int) 32 ∧ Builtin.bitXor ((k.val : Nat) + 19968 : Int) 32 < 20224) = true := by decide +kernel
theorem sg_xor {x : Int} (h : Sg x) : Sg (Builtin.bitXor x 32) := by
  rcases h with ⟨h0, h1⟩ | ⟨h0, h1⟩
  · have := of_decide_eq_true (sg_xor_a ⟨x.toNat, by omega⟩)
    rw [show ((x.toNat : Nat) : Int) = x by omega] at this
    exact .inl this
  · have := of_decide_eq_true (sg_xor_b ⟨(x - 19968).toNat, by omega⟩)
    rw [show (((x - 19968).toNat : Nat) + 19968 : Int) = x by omega] at this
    exact .inr this
section
variable {prog : Program} {w : World} {p : Program} {loose : List Str} {mean : ExcName → Option Value} {mg mb : Str → Option Value}
local macro_rules | `(tactic| walk_at "pyIter ref") => `(tactic| (refine Hold.out ?_))
local macro_rules | `(tactic| k_all) => `(tactic| (refine List.forall_mem_append.mpr ⟨?_, ?_⟩ <;> k_all))
local macro_rules | `(tactic| walk_at "same") => `(tactic| (intro z h1 h2 h3; (try simp only [List.forall_mem_cons, List.not_mem_nil, false_implies, implies_true, and_true, ne_eq] at h2); (try simp only [List.contains_cons, List.contains_nil, Bool.or_false, Bool.or_eq_false_iff, beq_eq_false_iff_ne, ne_eq] at h3); (first | rfl | (simp [kstB, h1, h2, h3]; done) | (simp [kstB, h1, h3]; done))))
local macro_rules | `(tactic| walk_at "InvEndN") => `(tactic| (refine Hold.out ?_))
local macro_rules | `(tactic| walk_at "exec For Name Name cons nil") => `(tactic| ((rename Fr _ _ _ _ => lF'); (with_unfolding_all refine' For_invVF lF' ?k1 ?k2 ?_; (case k1 => exact rfl); (case k2 => exact rfl); k_whole)))
local macro_rules | `(tactic| walk_at "call ref") => `(tactic| ((with_reducible show wpAny _ _ (PySem.call (Value.ref 35) _ _) _ _ _); (refine' Spec.use (sign_any _ _ _) ?kB ?kF ?kX ?kN ?kT ?kk ?kd ?ku ?_; (case kB => k_asm); (case kF => k_asm); (case kX => k_asm); (case kN => k_asm); (case kT => k_asm); (case kk => exact rfl); (case kd => omega); (case ku => omega); k_whole); intro v h' tk' new F' N' hR; (obtain ⟨⟨x9, t9, hv9, hS9⟩, hn9⟩ := hR); (subst hv9); (subst hn9); (try simp only [List.nil_append] at N'); (try k_sweep)))
local macro_rules | `(tactic| walk_at "call builtin:list.append") => `(tactic| ((with_reducible show wpAny _ _ (PySem.call (Value.builtin _) [Value.ref _, _]) _ _ _); k_dflt (refine' append_L ?k1 ?k2 ?k3 ?_ ?z; (case k1 => k_asm); (case k2 => k_asm); (case k3 => k_upd); (case z => ((try simp only [List.length_append, List.length_cons, List.length_nil]); rw [sizeLine_eq]; omega)); k_whole); intro h' F' N'; (try k_sweep)))
set_option maxRecDepth 100000 in
set_option maxHeartbeats 8000000 in
theorem words_call (l : Addr) (vs : List Value) (ns : List Int) (H : Heap) (hl : H.IsList l vs.toArray) (hi : IntsAre vs ns) (h8 : ns.length ≤ 8) :
    Spec prog w p loose mean mg mb 42 [.ref l] H (fun v new => ∃ T a b va vb na nb nt one two, v = .ref T ∧ new = [(T, { cls := .type "tuple", data := .seq #[.ref a, .ref b] nt }), (b, W.listOf vb.toArray nb), (a, W.listOf va.toArray na)] ∧
      IntsAre va one ∧ IntsAre vb two ∧ (∀ x ∈ one, Sg x) ∧ (∀ x ∈ two, Sg x) ∧ one.length ≤ 160 ∧ two.length ≤ 8) 2 := by
  refine Spec.enter (f := 42) (by k_is) (by k_is) (fun s => BindsTo.of_eq rfl) (locs rfl) rfl rfl rfl (by decide) (by decide) ?_
  intro dp un gd outer A₀ base L' h₁ s B F N X T hdp hun
  k_fold
  k_steps
  rename_i d1 _ _ _ d2 _ hlt h' lF lN
  unfold Hold
  refine kst_list (σ := List Value × Nat × List Int × List Value × Nat × List Int) (fun c => [(d2, W.listOf c.2.2.2.1.toArray c.2.2.2.2.1), (d1, W.listOf c.1.toArray c.2.1)]) (fun _ => [])
    (fun c => IntsAre c.1 c.2.2.1 ∧ IntsAre c.2.2.2.1 c.2.2.2.2.2) ["rest", "deed", "sign", "other", "turn"]
    (fun pre c => (∀ x ∈ c.2.2.1, Sg x) ∧ (∀ x ∈ c.2.2.2.2.2, Sg x) ∧ c.2.2.1.length ≤ 20 * pre.length ∧ c.2.2.2.2.2.length ≤ pre.length) ([], 0, [], [], 0, []) rfl hl hi lF lN ⟨.nil, .nil⟩ (by simp) (by simp) ?_ ?_
  · rintro ⟨va, na, a, vb, nb, b⟩ pre post n t u h tk own e hmem hoff ⟨hia, hib⟩ ⟨hSa, hSb, hLa, hLb⟩ F N
    dsimp only at *
    k_fold
    simp only [List.cons_append, List.nil_append] at N
    have hza := hia.length
    have hzb := hib.length
    have hpre : pre.length < 8 := by rw [e] at h8; simp at h8; omega
    k_steps
    all_goals unfold Hold
    · refine kst_endA (_, _, _, _, _, _) (by assumption) (by assumption) (by rfl) ⟨IntsAre.append hia (IntsAre.cons _ _ IntsAre.nil), IntsAre.append hib (IntsAre.cons _ _ IntsAre.nil)⟩ (fun _ h => nomatch h) (by walk_at "same") ?_
      exact words_p (sg_app hSa (by assumption)) (sg_app hSb (by assumption)) hLa hLb (by simp) (by simp)
    · obtain ⟨k, hk, hk20⟩ := four ((n.fmod 20971520).fdiv 5242880).toNat
      refine for_range (σ := List Value × Nat × List Int) k (fun c => (d2, W.listOf vb.toArray nb) :: (d1, W.listOf c.1.toArray c.2.1) :: own) (fun _ => []) (fun c => IntsAre c.1 c.2.2) [] (fun i c => (∀ x ∈ c.2.2, Sg x) ∧ c.2.2.length = a.length + i) (va, na, a)
        rfl (by assumption) hk (by omega) (by assumption) (kst_newsOf (by assumption) (fun q hq => List.mem_cons_of_mem _ hq)) hia (fun _ h => nomatch h) ⟨hSa, rfl⟩ ?_ ?_
      · rintro ⟨vc, nc, c⟩ i pre' t u h tk own' hi' hik hoff' hic ⟨hSc, hLc⟩ F N
        dsimp only at *
        k_fold
        simp only [List.cons_append, List.nil_append] at N
        have hzc := hic.length
        k_steps
        unfold Hold
        refine kst_endA (_, _, _) (by assumption) (by assumption) (by rfl) (IntsAre.append hic (IntsAre.cons _ _ IntsAre.nil)) (fun _ h => nomatch h) (by walk_at "same") ?_
        exact ⟨sg_app hSc (by assumption), by simp; omega⟩
      · rintro ⟨vc, nc, c⟩ u h tk hic ⟨hSc, hLc⟩ F N
        dsimp only at *
        k_steps
        unfold Hold
        refine kst_endA (_, _, _, _, _, _) (by assumption) (by assumption) (by rfl) ⟨hic, hib⟩ (fun _ h => nomatch h) (by walk_at "same") ?_
        exact words_p hSc hSb hLa hLb (by dsimp only; omega) (by dsimp only; omega)
    · refine kst_endA (_, _, _, _, _, _) (by assumption) (by assumption) (by rfl) ⟨hia, IntsAre.append hib (IntsAre.cons _ _ IntsAre.nil)⟩ (fun _ h => nomatch h) (by walk_at "same") ?_
      exact words_p hSa (sg_app hSb (by assumption)) hLa hLb (by simp) (by simp)
    · refine kst_endA (_, _, _, _, _, _) (by assumption) (by assumption) (by rfl) ⟨IntsAre.append hia (IntsAre.cons _ _ IntsAre.nil), IntsAre.append hib (IntsAre.cons _ _ IntsAre.nil)⟩ (fun _ h => nomatch h) (by walk_at "same") ?_
      exact words_p (sg_app hSa (by assumption)) (sg_app hSb (sg_xor (by assumption))) hLa hLb (by simp) (by simp)
    · refine kst_endA (_, _, _, _, _, _) (by assumption) (by assumption) (by rfl) ⟨IntsAre.append hia (IntsAre.cons _ _ IntsAre.nil), IntsAre.append hib (IntsAre.cons _ _ IntsAre.nil)⟩ (fun _ h => nomatch h) (by walk_at "same") ?_
      exact words_p (sg_app hSa (by assumption)) (sg_app hSb (by assumption)) hLa hLb (by simp) (by simp)
  · rintro ⟨va, na, a, vb, nb, b⟩ u h tk ⟨hia, hib⟩ ⟨hSa, hSb, hLa, hLb⟩ F N
    dsimp only at *
    k_steps
    show Out _ _ _ _ _
    exact Out.ret (by assumption) (by assumption) (fun q hq => hq) ⟨_, _, _, va, vb, _, _, _, a, b, rfl, rfl, hia, hib, hSa, hSb, by omega, by omega⟩
end
end Mine

-- Wcost
theorem Mine.freshWcost : True := by
  w_top off
  trivial
namespace Mine

def chrS (c : Int) : Str := ⟨#[c.toNat]⟩
def subc (x y : Str) : Int := if (x == y) = true then 0 else if (Txt.lower x == Txt.lower y) = true then 1 else 2
def low (c : Nat) : Nat := if 65 ≤ c ∧ c ≤ 90 then c + 32 else c
theorem lower_a : ∀ k : Fin 128, Txt.lower ⟨#[k.val]⟩ = ⟨#[low k.val]⟩ := by decide +kernel
theorem shifted_none : ∀ (l : List (Nat × Nat × Nat)) (c : Nat), (l.all fun e => decide (e.2.1 < 19968) || decide (20223 < e.1)) = true → 19968 ≤ c → c < 20224 → Unicode.shifted l c = none
  | [], _, _, _, _ => rfl
  | (a, b, t) :: r, c, h, h0, h1 => by
    simp only [List.all_cons, Bool.and_eq_true, Bool.or_eq_true, decide_eq_true_eq] at h
    unfold Unicode.shifted
    by_cases ha : c < a
    · rw [if_pos ha]
    · rw [if_neg ha, if_neg (by omega)]
      exact shifted_none r c h.2 h0 h1
theorem lower_tab : (UnicodeData.oneLower.all fun e => decide (e.2.1 < 19968) || decide (20223 < e.1)) = true := by decide +kernel
theorem several_none {c : Nat} (h0 : 19968 ≤ c) : UnicodeData.severalLower.lookup c = none := by
  have hn : (c == 304) = false := by simp; omega
  show List.lookup c [(304, [105, 775])] = none
  simp only [List.lookup, hn]
theorem lower_b' {c : Nat} (h0 : 19968 ≤ c) (h1 : c < 20224) : Txt.lower ⟨#[c]⟩ = ⟨#[c]⟩ := by
  have e : Txt.lower ⟨#[c]⟩ = ⟨(Unicode.lowerAt #[c] 0).toArray⟩ := by simp [Txt.lower, placed]
  rw [e]
  have e2 : Unicode.lowerAt #[c] 0 = [c] := by
    unfold Unicode.lowerAt
    have hn : (c == 931) = false := by simp; omega
    simp [hn, Unicode.lowerOf, Unicode.image, several_none h0, shifted_none _ c lower_tab h0 h1]
  rw [e2]
theorem lower_sg {c : Int} (h : Sg c) : Txt.lower (chrS c) = ⟨#[low c.toNat]⟩ := by
  rcases h with ⟨h0, h1⟩ | ⟨h0, h1⟩
  · exact lower_a ⟨c.toNat, by omega⟩
  · unfold chrS
    rw [lower_b' (by omega) (by omega)]
    unfold low
    rw [if_neg (by omega)]
theorem one_inj {c d : Nat} : ((⟨#[c]⟩ : Str) == ⟨#[d]⟩) = decide (c = d) := by
  by_cases h : c = d
  · subst h; simp
  · rw [decide_eq_false h]
    exact beq_false_of_ne fun e => h (by injection e with e; simpa using e)
theorem low_up {n : Nat} (h : 65 ≤ n ∧ n ≤ 90) : low n = n + 32 := if_pos h
theorem low_no {n : Nat} (h : ¬ (65 ≤ n ∧ n ≤ 90)) : low n = n := if_neg h
theorem low_lt {n m : Nat} (h : n < m) : low n = low m ↔ m = n + 32 ∧ 65 ≤ n ∧ n ≤ 90 := by
  by_cases hn : 65 ≤ n ∧ n ≤ 90
  · rw [low_up hn]
    by_cases hm : 65 ≤ m ∧ m ≤ 90
    · rw [low_up hm]; exact ⟨fun e => by omega, fun e => by omega⟩
    · rw [low_no hm]; exact ⟨fun e => ⟨e.symm, hn⟩, fun e => e.1.symm⟩
  · rw [low_no hn]
    refine ⟨fun e => ?_, fun e => absurd e.2 hn⟩
    by_cases hm : 65 ≤ m ∧ m ≤ 90
    · rw [low_up hm] at e; omega
    · rw [low_no hm] at e; omega
theorem sz_lt {n m : Nat} (h : n < m) : (((n : Int) - m).natAbs = 32 ∧ 65 ≤ min (n : Int) m ∧ min (n : Int) m ≤ 90) ↔ m = n + 32 ∧ 65 ≤ n ∧ n ≤ 90 := by
  rw [Int.min_eq_left (by omega)]
  omega
/-- a change's cost, by the signs' numbers (small proofs: the compiled file has a lid) -/
theorem chg_nat (n m : Nat) : (if n = m then (0 : Int) else if low n = low m then 1 else 2) = chg n m := by
  unfold chg
  rcases Nat.lt_trichotomy n m with h | h | h
  · rw [if_neg (Nat.ne_of_lt h), if_neg (show ¬ ((n : Int) = m) by omega)]
    simp only [low_lt h, sz_lt h]
  · rw [if_pos h, h, if_pos rfl]
  · rw [if_neg (Nat.ne_of_gt h), if_neg (show ¬ ((n : Int) = m) by omega), Int.min_comm, show ((n : Int) - m).natAbs = ((m : Int) - n).natAbs by omega]
    simp only [eq_comm (a := low n), low_lt h, sz_lt h]
theorem sg_nonneg {a : Int} (h : Sg a) : (a.toNat : Int) = a := by
  rcases h with h | h
  · exact Int.toNat_of_nonneg h.1
  · exact Int.toNat_of_nonneg (Int.le_trans (by decide) h.1)
theorem subc_chg {a b : Int} (ha : Sg a) (hb : Sg b) : subc (chrS a) (chrS b) = chg a b := by
  unfold subc
  rw [lower_sg ha, lower_sg hb]
  unfold chrS
  rw [one_inj, one_inj]
  simp only [decide_eq_true_eq]
  rw [chg_nat, sg_nonneg ha, sg_nonneg hb]
section
variable {prog : Program} {w : World} {p : Program} {loose : List Str} {mean : ExcName → Option Value} {mg mb : Str → Option Value}
set_option maxRecDepth 100000 in
set_option maxHeartbeats 8000000 in
theorem change_call (x y : Int) (tx ty : Tok) (H : Heap) : Spec prog w p loose mean mg mb 56 [.int x tx, .int y ty] H (fun v new => (∃ t, v = .int (chg x y) t) ∧ new = []) 1 := by
  refine Spec.enter (f := 56) (by k_is) (by k_is) (fun s => BindsTo.of_eq rfl) (locs rfl) rfl rfl rfl (by decide) (by decide) ?_
  intro dp un gd outer A₀ base L' h₁ s B F N X T hdp hun
  k_fold
  k_steps
  all_goals (refine Out.ret (by assumption) (by assumption) (fun q hq => hq) ⟨retI ?_, rfl⟩; (unfold chg; split <;> (try split) <;> omega))
set_option maxRecDepth 100000 in
set_option maxHeartbeats 8000000 in
theorem subst_call (x y : Str) (tx ty : Tok) (H : Heap) (hx : x.length = 1) (hy : y.length = 1) : Spec prog w p loose mean mg mb 21 [.str x tx, .str y ty] H (fun v new => (∃ t, v = .int (subc x y) t) ∧ new = []) 1 := by
  refine Spec.enter (f := 21) (by k_is) (by k_is) (fun s => BindsTo.of_eq rfl) (locs rfl) rfl rfl rfl (by decide) (by decide) ?_
  intro dp un gd outer A₀ base L' h₁ s B F N X T hdp hun
  k_fold
  k_steps
  all_goals (refine Out.ret (by assumption) (by assumption) (fun q hq => hq) ⟨retI ?_, rfl⟩; (unfold subc; simp_all))
theorem subst_sg (a b : Int) (ha : Sg a) (hb : Sg b) (tx ty : Tok) (H : Heap) : Spec prog w p loose mean mg mb 21 [.str (chrS a) tx, .str (chrS b) ty] H (fun v new => (∃ t, v = .int (chg a b) t) ∧ new = []) 1 := by
  rw [← subc_chg ha hb]
  exact subst_call _ _ _ _ _ rfl rfl
end
end Mine

-- Strs
theorem Mine.freshStrs : True := by
  w_top off
  trivial
namespace Mine
def strOf (l : List Int) : Str := ⟨(l.map Int.toNat).toArray⟩
theorem strOf_len (l : List Int) : (strOf l).length = l.length := by
  show (l.map Int.toNat).toArray.size = l.length
  simp
theorem sliceRange_one (a b : Nat) (h : a ≤ b) : sliceRange (a : Int) (b : Int) 1 = (List.range (b - a)).map (a + ·) := by
  unfold sliceRange
  have hc : (if (1 : Int) > 0 then (if (a : Int) < (b : Int) then ((b : Int) - a + 1 - 1) / 1 else 0) else (if (a : Int) > (b : Int) then ((a : Int) - b - 1 - 1) / (-1) else 0)).toNat = b - a := by
    simp only [gt_iff_lt, Int.reduceLT, if_true, Int.ediv_one]
    split <;> omega
  dsimp only
  rw [hc]
  refine List.map_congr_left fun k _ => ?_
  omega
theorem fm_map {α β : Type} (f : α → Option β) (g : α → β) : ∀ l : List α, (∀ x ∈ l, f x = some (g x)) → l.filterMap f = l.map g
  | [], _ => rfl
  | x :: l, h => by rw [List.filterMap_cons, h x (.head _), List.map_cons, fm_map f g l fun y hy => h y (.tail _ hy)]
theorem pick_range (l : List Nat) (a b : Nat) (hb : b ≤ l.length) : ((List.range (b - a)).map (a + ·)).filterMap (l.toArray[·]?) = (l.drop a).take (b - a) := by
  apply List.ext_getElem?
  intro k
  rw [List.filterMap_map]
  have hf : (List.range (b - a)).filterMap ((fun x => l.toArray[x]?) ∘ fun x => a + x) = (List.range (b - a)).map (fun k => l.getD (a + k) 0) := by
    refine fm_map _ _ _ fun k hk => ?_
    have := List.mem_range.mp hk
    have hlt : a + k < l.length := by omega
    simp [hlt]
  rw [hf]
  simp only [List.getElem?_map, List.getElem?_take, List.getElem?_drop]
  by_cases hk : k < b - a
  · have hlt : a + k < l.length := by omega
    simp [hk, hlt]
  · simp [hk]
theorem slice_ab (l : List Int) (lo hi : Option Int) (a b : Nat) (hab : a ≤ b) (hb : b ≤ l.length) (e : Builtin.Str.strSliceIndices lo hi 1 l.length = sliceRange (a : Int) (b : Int) 1) : Txt.slice (strOf l) lo hi = strOf ((l.drop a).take (b - a)) := by
  unfold Txt.slice
  rw [strOf_len, e, sliceRange_one a b hab]
  split
  · rename_i h
    simp at h
    have h1 : a = 0 := by omega
    have h2 : b = l.length := by omega
    subst h1 h2
    simp
  · show (⟨_⟩ : Str) = ⟨_⟩
    congr 1
    congr 1
    show List.filterMap (fun x => (l.map Int.toNat).toArray[x]?) _ = _
    rw [pick_range _ a b (by simpa using hb)]
    simp
theorem slice_from (l : List Int) (i : Nat) (h : i ≤ l.length) : Txt.slice (strOf l) (some (i : Int)) none = strOf (l.drop i) := by
  rw [slice_ab l _ _ i l.length h (Nat.le_refl _) ?_]
  · congr 1
    exact List.take_of_length_le (by simp)
  · unfold Builtin.Str.strSliceIndices
    simp only [gt_iff_lt, Int.reduceLT, if_true]
    congr 1
    split <;> omega
theorem slice_upto (l : List Int) (j : Nat) (h0 : 0 < j) (h : j ≤ l.length) : Txt.slice (strOf l) none (some (-(j : Int))) = strOf (l.take (l.length - j)) := by
  rw [slice_ab l _ _ 0 (l.length - j) (Nat.zero_le _) (Nat.sub_le _ _) ?_]
  · simp
  · unfold Builtin.Str.strSliceIndices
    simp only [gt_iff_lt, Int.reduceLT, if_true]
    congr 1
    split <;> omega
theorem slice_all (l : List Int) : Txt.slice (strOf l) none none = strOf l := by
  rw [slice_ab l _ _ 0 l.length (Nat.zero_le _) (Nat.le_refl _) ?_]
  · simp
  · unfold Builtin.Str.strSliceIndices
    simp only [gt_iff_lt, Int.reduceLT, if_true]
    rfl
theorem item_at (l : List Int) (i : Nat) (h : i < l.length) : Txt.item (strOf l) (i : Int) = chrS (l.getD i 0) := by
  unfold Txt.item Txt.charAt seqIndex? chrS strOf
  have h1 : ¬ ((i : Int) < 0) := by omega
  have h2 : (i : Int) < ((l.map Int.toNat).length : Int) := by simp; omega
  simp [h1, Str.length, h]
theorem item_back (l : List Int) (j : Nat) (h : j < l.length) : Txt.item (strOf l) (-(j : Int) - 1) = chrS (l.getD (l.length - 1 - j) 0) := by
  unfold Txt.item Txt.charAt seqIndex? chrS strOf
  have h1 : (-(j : Int) - 1 < 0) := by omega
  have h3 : (-(j : Int) - 1 + (l.length : Int)).toNat = l.length - 1 - j := by omega
  have h4 : l.length - 1 - j < l.length := by omega
  have h5 : 0 ≤ -(j : Int) - 1 + (l.length : Int) := by omega
  have h6 : -(j : Int) - 1 + (l.length : Int) < (l.length : Int) := by omega
  simp [h1, Str.length, h3, h4, h5, h6]
theorem getD_sg {l : List Int} (h : ∀ x ∈ l, Sg x) {i : Nat} (hi : i < l.length) : Sg (l.getD i 0) := by
  have e : l.getD i 0 = l[i] := by simp [hi]
  rw [e]
  exact h _ (List.getElem_mem hi)
theorem chrS_beq {a b : Int} (ha : Sg a) (hb : Sg b) : (chrS a == chrS b) = decide (a = b) := by
  unfold chrS
  rw [one_inj]
  unfold Sg at ha hb
  congr 1
  apply propext
  omega
theorem map_toNat_inj {a b : List Int} (ha : ∀ x ∈ a, Sg x) (hb : ∀ x ∈ b, Sg x) (e : a.map Int.toNat = b.map Int.toNat) : a = b := by
  induction a generalizing b with
  | nil => cases b with
    | nil => rfl
    | cons y b => cases e
  | cons x a ih => cases b with
    | nil => cases e
    | cons y b =>
      simp only [List.map_cons, List.cons.injEq] at e
      have h1 := ha x (.head _)
      have h2 := hb y (.head _)
      unfold Sg at h1 h2
      rw [ih (fun z hz => ha z (.tail _ hz)) (fun z hz => hb z (.tail _ hz)) e.2]
      congr 1
      omega
theorem strOf_beq {a b : List Int} (ha : ∀ x ∈ a, Sg x) (hb : ∀ x ∈ b, Sg x) : (strOf a == strOf b) = decide (a = b) := by
  by_cases h : a = b
  · subst h; simp
  · rw [decide_eq_false h]
    refine beq_false_of_ne fun e => h (map_toNat_inj ha hb ?_)
    have := congrArg Str.cps e
    simpa [strOf] using this
section
variable {prog : Program} {w : World} {A : Around} {E : Value → Shared → Prop} {s : Shared} {value slice : Expr} {l : List Int} {t : Tok} {h₀ : Heap} {L : Addr} {m : Str → Option Value} {news : List (Addr × Obj)} {Q : Value → Shared → Prop}
theorem sub_from {i : Nat} {ui : Tok} (hF : Fr h₀ L s.heap m) (hN : News h₀ L s.heap news) (hi : i ≤ l.length) (hz : l.length ≤ 1000)
    (h : ∀ h' t' k, Fr h₀ L h' m → News h₀ L h' news → Q (.str (strOf (l.drop i)) t') { s with heap := h', toks := k })
    (hs : subscripted slice false (.str (strOf l) t) (.ref s.heap.objs.size) = operate [.ref s.heap.objs.size, .str (strOf l) t] (getItem (.str (strOf l) t) (.ref s.heap.objs.size)) := by with_unfolding_all rfl)
    (ht : ∀ r, letTemporaryGo value (.str (strOf l) t) r = pure () := by intro _; with_unfolding_all rfl) :
    wpAny (model prog w) A (subscriptTail value slice (.str (strOf l) t) (.ref s.heap.objs.size)) Q E { s with heap := s.heap.push { cls := .type "slice", data := .fields #[.int (i : Int) ui, .none, .none] } } :=
  slice_strN_sn hF hN (by rw [slice_from l i hi]; exact h) hs ht (by rw [strOf_len, sizeLine_eq]; omega)
theorem sub_upto {j : Nat} {uj : Tok} (hF : Fr h₀ L s.heap m) (hN : News h₀ L s.heap news) (hj : 0 < j) (hi : j ≤ l.length) (hz : l.length ≤ 1000)
    (h : ∀ h' t' k, Fr h₀ L h' m → News h₀ L h' news → Q (.str (strOf (l.take (l.length - j))) t') { s with heap := h', toks := k })
    (hs : subscripted slice false (.str (strOf l) t) (.ref s.heap.objs.size) = operate [.ref s.heap.objs.size, .str (strOf l) t] (getItem (.str (strOf l) t) (.ref s.heap.objs.size)) := by with_unfolding_all rfl)
    (ht : ∀ r, letTemporaryGo value (.str (strOf l) t) r = pure () := by intro _; with_unfolding_all rfl) :
    wpAny (model prog w) A (subscriptTail value slice (.str (strOf l) t) (.ref s.heap.objs.size)) Q E { s with heap := s.heap.push { cls := .type "slice", data := .fields #[.none, .int (-(j : Int)) uj, .none] } } :=
  slice_strN_ns hF hN (by rw [slice_upto l j hj hi]; exact h) hs ht (by rw [strOf_len, sizeLine_eq]; omega)
theorem sub_all (hF : Fr h₀ L s.heap m) (hN : News h₀ L s.heap news) (hz : l.length ≤ 1000)
    (h : ∀ h' t' k, Fr h₀ L h' m → News h₀ L h' news → Q (.str (strOf l) t') { s with heap := h', toks := k })
    (hs : subscripted slice false (.str (strOf l) t) (.ref s.heap.objs.size) = operate [.ref s.heap.objs.size, .str (strOf l) t] (getItem (.str (strOf l) t) (.ref s.heap.objs.size)) := by with_unfolding_all rfl)
    (ht : ∀ r, letTemporaryGo value (.str (strOf l) t) r = pure () := by intro _; with_unfolding_all rfl) :
    wpAny (model prog w) A (subscriptTail value slice (.str (strOf l) t) (.ref s.heap.objs.size)) Q E { s with heap := s.heap.push { cls := .type "slice", data := .fields #[.none, .none, .none] } } :=
  slice_strN_nn hF hN (by rw [slice_all l]; exact h) hs ht (by rw [strOf_len, sizeLine_eq]; omega)
def orN (j : Nat) (t : Tok) : Value := if j = 0 then .none else .int (-(j : Int)) t
theorem or_none {name : Str} {scope : Scope} {a : Addr} {cd : Value} {x : Str} {p1 p2 pos : Pos} {k j : Nat} {tj : Tok} (F : Fr h₀ L s.heap m) (hv : m x = some (.int (-(j : Int)) tj)) (h : Q (orN j tj) s)
    (hk : scope.kind = .function := by rfl) (hl : (envOf name scope L a cd).kindOf x = some .local := by rfl) (hd : (x == ("__debug__" : Str)) = false := by decide) :
    wpAny (model prog w) A (eval (.BoolOp .Or [.Name x p1, .Constant .none k p2] pos) (envOf name scope L a cd)) Q E s := by
  refine BoolOp_or (ld F hv (truthy_int ?_) hk hl hd)
  by_cases e : j = 0
  · subst e
    exact BoolOp_one (Constant_none h)
  · have hb : ((-(j : Int)) != 0) = true := by rw [bne_iff_ne]; omega
    rw [hb, if_pos rfl]
    unfold orN at h
    rw [if_neg e] at h
    exact h
theorem sub_uptoN {j : Nat} {uj : Tok} (hF : Fr h₀ L s.heap m) (hN : News h₀ L s.heap news) (hi : j ≤ l.length) (hz : l.length ≤ 1000)
    (h : ∀ h' t' k, Fr h₀ L h' m → News h₀ L h' news → Q (.str (strOf (l.take (l.length - j))) t') { s with heap := h', toks := k })
    (hs : subscripted slice false (.str (strOf l) t) (.ref s.heap.objs.size) = operate [.ref s.heap.objs.size, .str (strOf l) t] (getItem (.str (strOf l) t) (.ref s.heap.objs.size)) := by with_unfolding_all rfl)
    (ht : ∀ r, letTemporaryGo value (.str (strOf l) t) r = pure () := by intro _; with_unfolding_all rfl) :
    wpAny (model prog w) A (subscriptTail value slice (.str (strOf l) t) (.ref s.heap.objs.size)) Q E { s with heap := s.heap.push { cls := .type "slice", data := .fields #[.none, orN j uj, .none] } } := by
  unfold orN
  by_cases e : j = 0
  · subst e
    rw [if_pos rfl]
    refine sub_all hF hN hz ?_ hs ht
    simpa using h
  · rw [if_neg e]
    exact sub_upto hF hN (by omega) hi hz h hs ht
theorem len_strOf (hz : l.length ≤ 1000) (h : ∀ t' k, Q (.int (l.length : Int) t') { s with toks := k }) : wpAny (model prog w) A (call (.builtin "len") [.str (strOf l) t]) Q E s :=
  P.len_str (by rw [strOf_len]; omega) (by rw [strOf_len]; exact h _ _)
theorem sub_item {i : Nat} {u : Tok} (hi : i < l.length) (hz : l.length ≤ 1000) (h : Q (.str (chrS (l.getD i 0)) s.toks) { s with toks := s.toks + 1 })
    (hs : subscripted slice false (.str (strOf l) t) (.int (i : Int) u) = operate [.str (strOf l) t, .int (i : Int) u] (getItem (.str (strOf l) t) (.int (i : Int) u)) := by with_unfolding_all rfl)
    (ht : ∀ r, letTemporaryGo value (.str (strOf l) t) r = pure () := by intro _; with_unfolding_all rfl) :
    wpAny (model prog w) A (subscriptTail value slice (.str (strOf l) t) (.int (i : Int) u)) Q E s :=
  item_str (fitsSsize_of (N := 9223372036854775808) (by omega) (by omega) (Int.le_refl _)) (by rw [strOf_len]; omega) (by rw [strOf_len]; omega) (fun _ => by rw [item_at l i hi]; exact h) hs ht
theorem sub_back {j : Nat} {u : Tok} (hi : j < l.length) (hz : l.length ≤ 1000) (h : Q (.str (chrS (l.getD (l.length - 1 - j) 0)) s.toks) { s with toks := s.toks + 1 })
    (hs : subscripted slice false (.str (strOf l) t) (.int (-(j : Int) - 1) u) = operate [.str (strOf l) t, .int (-(j : Int) - 1) u] (getItem (.str (strOf l) t) (.int (-(j : Int) - 1) u)) := by with_unfolding_all rfl)
    (ht : ∀ r, letTemporaryGo value (.str (strOf l) t) r = pure () := by intro _; with_unfolding_all rfl) :
    wpAny (model prog w) A (subscriptTail value slice (.str (strOf l) t) (.int (-(j : Int) - 1) u)) Q E s :=
  item_str (fitsSsize_of (N := 9223372036854775808) (by omega) (by omega) (Int.le_refl _)) (by rw [strOf_len]; omega) (by rw [strOf_len]; omega) (fun _ => by rw [item_back l j hi]; exact h) hs ht
theorem truthy_strOf {Q : Bool → Shared → Prop} (hz : l.length ≤ 1000) (h : Q (decide (0 < l.length)) { s with toks := s.toks + 1 + 1 }) : wpAny (model prog w) A (truthy (.str (strOf l) t)) Q E s :=
  P.truthy_str (by rw [strOf_len]; omega) (by
    rw [strOf_len, show (((l.length : Nat) : Int) != 0) = decide (0 < l.length) by
      by_cases e : l.length = 0
      · rw [e]; rfl
      · rw [decide_eq_true (by omega), bne_iff_ne]; omega]
    exact h)
theorem range_evens {n : Nat} (hn : n ≤ 1000) : Builtin.Range.small 2 (2 * ((n : Int) + 1)) 2 = true ∧ Builtin.Range.rangeSize 2 (2 * ((n : Int) + 1)) 2 = (n : Int) := by
  have e : Builtin.Range.rangeSize 2 (2 * ((n : Int) + 1)) 2 = (n : Int) := by
    unfold Builtin.Range.rangeSize
    (repeat' split) <;> omega
  refine ⟨?_, e⟩
  unfold Builtin.Range.small
  rw [e]
  unfold Builtin.Range.rangeFitsLong
  simp only [Bool.and_eq_true, decide_eq_true_eq, Bool.or_eq_true, beq_iff_eq, gt_iff_lt, Int.reduceLT, if_true]
  omega
theorem list_evens {r : Addr} {n : Nat} {t u v : Tok} (hh : A.handled = none) (F : Fr h₀ L s.heap m) (N : News h₀ L s.heap news) (hr : IsRange s.heap r 2 (2 * ((n : Int) + 1)) 2 t u v) (hn : n ≤ 1000)
    (h : ∀ a h' tk ys k, Fr h₀ L h' m → News h₀ L h' ((a, W.listOf (List.toArray ys) k) :: news) → IntsAre ys ((List.range n).map fun i : Nat => 2 * ((i : Int) + 1)) → Q (.ref a) { s with heap := h', toks := tk }) :
    wpAny (model prog w) A (call (.type "list") [.ref r]) Q E s := by
  refine list_rangeD hh F N hr (range_evens hn).1 (range_evens hn).2 (by omega) fun h' tk ys F' N' k0 hnew hL hP hC => ?_
  obtain ⟨k, N2⟩ := made_enters hP F' N' hnew
  refine h _ h' tk ys k F' N2 ?_
  have hi : IntsAre ys (rangeInts 2 2 n) := by simpa using CarriedAll.intsOf (f := fun a : Int => a) hC
  have e : rangeInts 2 2 n = (List.range n).map fun i : Nat => 2 * ((i : Int) + 1) := by
    unfold rangeInts
    refine List.map_congr_left fun i _ => ?_
    omega
  rw [e] at hi
  exact hi
end
end Mine

-- Wlev
theorem Mine.freshWlev : True := by
  w_top off
  trivial
namespace Mine
structure LOut where
  vs : List Value
  n : Nat
  r : Int
  tr : Tok
structure LIn where
  vs : List Value
  n : Nat
  d : Int
  td : Tok
  r : Int
  tr : Tok
  mn : Int
  tm : Tok
section
variable {prog : Program} {w : World} {p : Program} {loose : List Str} {mean : ExcName → Option Value} {mg mb : Str → Option Value}
local macro_rules | `(tactic| walk_at "exec While BoolOp cons nil") => `(tactic| (refine Hold.out ?_))
local macro_rules | `(tactic| walk_at "KswEnd") => `(tactic| (refine Hold.out ?_))
local macro_rules | `(tactic| walk_at "subscriptTail Name Slice str ref") => `(tactic| ((with_reducible show wpAny _ _ (subscriptTail _ (Expr.Slice (some _) none none _) (Value.str (strOf _) _) _) _ _ _); k_dflt (refine' sub_from (s := ⟨_, _, _, _, _⟩) ?k1 ?k2 ?k3 ?k4 ?_; (case k1 => k_asm); (case k2 => k_asm); (case k3 => omega); (case k4 => omega); k_whole); intro h' t' tk' F' N'; (try k_sweep)))
local macro_rules | `(tactic| walk_at "subscriptTail Name Slice str ref") => `(tactic| ((with_reducible show wpAny _ _ (subscriptTail _ (Expr.Slice none (some _) none _) (Value.str (strOf _) _) _) _ _ _); k_dflt (refine' sub_uptoN (s := ⟨_, _, _, _, _⟩) ?k1 ?k2 ?k3 ?k4 ?_; (case k1 => k_asm); (case k2 => k_asm); (case k3 => omega); (case k4 => omega); k_whole); intro h' t' tk' F' N'; (try k_sweep)))
local macro_rules | `(tactic| walk_at "eval BoolOp") => `(tactic| ((with_reducible show wpAny _ _ (eval (Expr.BoolOp BoolOp.Or [Expr.Name _ _, Expr.Constant _ _ _] _) _) _ _ _); k_dflt (refine' or_none ?k1 ?k2 ?_; (case k1 => k_asm); (case k2 => exact rfl); k_whole)))
local macro_rules | `(tactic| walk_at "call builtin:len") => `(tactic| ((with_reducible show wpAny _ _ (PySem.call (Value.builtin _) [Value.str (strOf _) _]) _ _ _); k_dflt (refine' len_strOf ?k1 ?_; (case k1 => omega); k_whole); intro t' tk'))
local macro_rules | `(tactic| walk_at "same") => `(tactic| (intro z h1 h2 h3; (try simp only [List.forall_mem_cons, List.not_mem_nil, false_implies, implies_true, and_true, ne_eq] at h2); (try simp only [List.contains_cons, List.contains_nil, Bool.or_false, Bool.or_eq_false_iff, beq_eq_false_iff_ne, ne_eq] at h3); (first | rfl | (simp [kstB, h1, h2, h3]; done) | (simp [kstB, h1, h3]; done))))
local macro_rules | `(tactic| walk_at "call ref") => `(tactic| ((with_reducible show wpAny _ _ (PySem.call (Value.ref 21) [Value.str (chrS _) _, Value.str (chrS _) _]) _ _ _); (refine' Spec.use (subst_sg _ _ ?kS1 ?kS2 _ _ _) ?kB ?kF ?kX ?kN ?kT ?kk ?kd ?ku ?_; (case kB => k_asm); (case kF => k_asm); (case kX => k_asm); (case kN => k_asm); (case kT => k_asm); (case kk => exact rfl); (case kd => omega); (case ku => omega); (case kS1 => exact getD_sg (by assumption) (by omega)); (case kS2 => exact getD_sg (by assumption) (by omega)); k_whole); intro v h' tk' new F' N' hR; (obtain ⟨⟨t9, hv9⟩, hn9⟩ := hR); (subst hv9); (subst hn9); (try simp only [List.nil_append] at N'); (try k_sweep)))
local macro_rules | `(tactic| k_all) => `(tactic| (refine List.forall_mem_append.mpr ⟨?_, ?_⟩ <;> k_all))
local macro_rules | `(tactic| walk_at "pyIter ref") => `(tactic| (refine Hold.out ?_))
local macro_rules | `(tactic| walk_at "InvEndN") => `(tactic| (refine Hold.out ?_))
local macro_rules | `(tactic| walk_at "call type:list") => `(tactic| ((with_reducible show wpAny _ _ (PySem.call (Value.type _) [Value.ref _]) _ _ _); k_dflt (refine' list_evens ?k0 ?k1 ?k2 ?k3 ?k4 ?_; (case k0 => exact rfl); (case k1 => k_asm); (case k2 => k_asm); (case k3 => assumption); (case k4 => omega); k_whole); intro a' h' tk' ys' k' F' N' hI'; (try k_sweep)))
local macro_rules | `(tactic| walk_at "exec If") => `(tactic| ((with_reducible show wpAny _ _ (exec (Stmt.If (Expr.BoolOp _ [Expr.UnaryOp _ _ _, _] _) _ _ _) _) _ _ _); refine Hold.out ?_))
local macro_rules | `(tactic| walk_at "exec If") => `(tactic| ((with_reducible show wpAny _ _ (exec (Stmt.If _ [Stmt.Assign [Expr.Tuple _ _ _] _ _] _ _) _) _ _ _); refine Hold.out ?_))
local macro_rules | `(tactic| walk_at "subscriptTail Name BinOp str int") => `(tactic| ((with_reducible show wpAny _ _ (subscriptTail _ _ (Value.str (strOf _) _) (Value.int _ _)) _ _ _); k_dflt (refine' sub_back ?k3 ?k4 ?_; (case k3 => omega); (case k4 => omega); k_whole)))
local macro_rules | `(tactic| walk_at "subscriptTail Name Name str int") => `(tactic| ((with_reducible show wpAny _ _ (subscriptTail _ _ (Value.str (strOf _) _) (Value.int (Nat.cast _) _)) _ _ _); k_dflt (refine' sub_item ?k3 ?k4 ?_; (case k3 => omega); (case k4 => omega); k_whole)))
local macro_rules | `(tactic| walk_at "truthy str") => `(tactic| ((with_reducible show wpAny _ _ (truthy (Value.str (strOf _) _)) _ _ _); k_dflt (refine' truthy_strOf ?k3 ?_; (case k3 => ((try simp only [List.length_drop, List.length_take]); omega)); k_whole); (try simp only [List.length_drop, List.length_take])))
local macro_rules | `(tactic| walk_at "same2") => `(tactic| (intro z h2 h3; (try simp only [List.forall_mem_cons, List.not_mem_nil, false_implies, implies_true, and_true, ne_eq] at h2); (try simp only [List.contains_cons, List.contains_nil, Bool.or_false, Bool.or_eq_false_iff, beq_eq_false_iff_ne, ne_eq] at h3); (first | rfl | (simp [kstB, h2, h3]; done) | (simp [kstB, h3]; done) | (simp [kstB, h2]; done))))
set_option maxRecDepth 100000 in
set_option maxHeartbeats 8000000 in
theorem lev_call (la lb : List Int) (mc : Int) (t1 t2 t3 : Tok) (H : Heap) (ha : ∀ x ∈ la, Sg x) (hb : ∀ x ∈ lb, Sg x) (hla : la.length ≤ 200) (hlb : lb.length ≤ 200) :
    Spec prog w p loose mean mg mb 28 [.str (strOf la) t1, .str (strOf lb) t2, .int mc t3] H (fun v new => (∃ t, v = .int (lev la lb mc) t) ∧ new = []) 3 := by
  refine Spec.enter (f := 28) (by k_is) (by k_is) (fun s => BindsTo.of_eq rfl) (locs rfl) rfl rfl rfl (by decide) (by decide) ?_
  intro dp un gd outer A₀ base L' h₁ s B F N X T hdp hun
  k_fold
  k_steps
  · rename_i heq
    rw [strOf_beq ha hb, decide_eq_true_eq] at heq
    refine Out.ret (by assumption) (by assumption) (fun q hq => hq) ⟨retI ?_, rfl⟩
    subst heq
    unfold lev
    rw [if_pos (.inl (midL_self la)), midL_self, midR_self]
    rfl
  rename_i hne h' F' N' 
  unfold Hold
  refine while_one (σ := Nat × Tok) (fun _ => []) (fun c => [("pre", .int (c.1 : Int) c.2)]) (fun _ => True) [] (fun c => c.1 ≤ pref la lb) (fun c => la.length - c.1) (fun c => c.1 = pref la lb) (0, _) (by assumption) (by assumption) trivial (List.forall_mem_cons.mpr ⟨rfl, List.forall_mem_nil _⟩) (by simp) ?_ ?_
  · rintro ⟨i, ti⟩ u h tk - hP F N
    dsimp only at *
    k_fold
    have hP1 := Nat.le_trans hP (pref_le_left la lb)
    have hP2 := Nat.le_trans hP (pref_le_right la lb)
    have hp := pref_lt la lb i hP
    k_steps
    · unfold Hold
      rename_i c1 _ _ c2 _ c3 _ _ _
      rw [chrS_beq (getD_sg ha (by omega)) (getD_sg hb (by omega)), decide_eq_true_eq] at c3
      have := hp.mpr ⟨by omega, by omega, c3⟩
      exact ksw_end (i + 1, _) (by assumption) (by assumption) (fun _ h => nomatch h) trivial (List.forall_mem_cons.mpr ⟨rfl, List.forall_mem_nil _⟩) (by walk_at "same2") this (by dsimp only; omega)
    · rename_i c1 _ _ c2 _ c3
      rw [chrS_beq (getD_sg ha (by omega)) (getD_sg hb (by omega)), decide_eq_false_iff_not] at c3
      refine Exit.intro (by assumption) (by assumption) ?_
      exact Nat.le_antisymm hP (Nat.le_of_not_lt fun q => c3 (hp.mp q).2.2)
    · exact Exit.intro (by assumption) (by assumption) (Nat.le_antisymm hP (Nat.le_of_not_lt fun q => by have := hp.mp q; omega))
    · exact Exit.intro (by assumption) (by assumption) (Nat.le_antisymm hP (Nat.le_of_not_lt fun q => by have := hp.mp q; omega))
  · rintro ⟨i, ti⟩ u h tk - hP hB F N
    dsimp only at *
    subst hB
    have hP1 := pref_le_left la lb
    have hP2 := pref_le_right la lb
    k_steps
    unfold Hold
    generalize hea : la.drop (pref la lb) = a at *
    generalize heb : lb.drop (pref la lb) = b at *
    have hSa : ∀ x ∈ a, Sg x := fun x hx => ha x (List.mem_of_mem_drop (hea ▸ hx))
    have hSb : ∀ x ∈ b, Sg x := fun x hx => hb x (List.mem_of_mem_drop (heb ▸ hx))
    have hza : a.length ≤ 200 := by rw [← hea]; simp; omega
    have hzb : b.length ≤ 200 := by rw [← heb]; simp; omega
    refine while_one (σ := Nat × Tok) (fun _ => []) (fun c => [("post", .int (-(c.1 : Int)) c.2)]) (fun _ => True) [] (fun c => c.1 ≤ sfx a b) (fun c => a.length - c.1) (fun c => c.1 = sfx a b) (0, _) (by assumption) (by assumption) trivial (List.forall_mem_cons.mpr ⟨rfl, List.forall_mem_nil _⟩) (by simp) ?_ ?_
    · rintro ⟨j, tj⟩ u h tk - hP F N
      dsimp only at *
      k_fold
      have hQ1 := Nat.le_trans hP (sfx_le_left a b)
      have hQ2 := Nat.le_trans hP (sfx_le_right a b)
      have hp := sfx_lt a b j hP
      k_steps
      · unfold Hold
        rename_i c1 _ _ _ c2 c3 _ _ _
        rw [chrS_beq (getD_sg hSa (by omega)) (getD_sg hSb (by omega)), decide_eq_true_eq] at c3
        have := hp.mpr ⟨by omega, by omega, c3⟩
        exact ksw_end (j + 1, _) (by assumption) (by assumption) (fun _ h => nomatch h) trivial (List.forall_mem_cons.mpr ⟨congrArg (fun z => some (Value.int z _)) (show -(j : Int) - 1 = -((j + 1 : Nat) : Int) by omega), List.forall_mem_nil _⟩) (by walk_at "same2") this (by dsimp only; omega)
      · rename_i c1 _ _ _ c2 c3
        rw [chrS_beq (getD_sg hSa (by omega)) (getD_sg hSb (by omega)), decide_eq_false_iff_not] at c3
        refine Exit.intro (by assumption) (by assumption) ?_
        exact Nat.le_antisymm hP (Nat.le_of_not_lt fun q => c3 (hp.mp q).2.2)
      · exact Exit.intro (by assumption) (by assumption) (Nat.le_antisymm hP (Nat.le_of_not_lt fun q => by have := hp.mp q; omega))
      · exact Exit.intro (by assumption) (by assumption) (Nat.le_antisymm hP (Nat.le_of_not_lt fun q => by have := hp.mp q; omega))
    · rintro ⟨j, tj⟩ u h tk - hP hB F N
      dsimp only at *
      subst hB
      have hQ1 := sfx_le_left a b
      have hQ2 := sfx_le_right a b
      k_steps
      unfold Hold
      generalize hgx : a.take (a.length - sfx a b) = x at *
      generalize hgy : b.take (b.length - sfx a b) = y at *
      have ex : midL la lb = x := by unfold midL; rw [hea, heb, hgx]
      have ey : midR la lb = y := by unfold midR; rw [hea, heb, hgy]
      have hzx : x.length ≤ 200 := by rw [← hgx]; simp; omega
      have hzy : y.length ≤ 200 := by rw [← hgy]; simp; omega
      have hSx : ∀ z ∈ x, Sg z := fun z hz => hSa z (List.mem_of_mem_take (hgx ▸ hz))
      have hSy : ∀ z ∈ y, Sg z := fun z hz => hSb z (List.mem_of_mem_take (hgy ▸ hz))
      have elev : lev la lb mc = if x = [] ∨ y = [] then 2 * ((x.length : Int) + y.length) else if 40 < x.length ∨ 40 < y.length then mc + 1 else if y.length < x.length then levPair y x mc else levPair x y mc := by unfold lev; rw [ex, ey]
      refine wpAny_If ?_
      k_steps
      · rename_i c1 c2 c3 _ _
        refine Out.ret (by assumption) (by assumption) (fun q hq => hq) ⟨retI ?_, rfl⟩
        rw [elev, if_neg (not_or.mpr ⟨List.ne_nil_of_length_pos c1, List.ne_nil_of_length_pos c2⟩), if_pos (.inl (by omega))]
      · rename_i c1 c2 _ _ _ c3 _ _
        refine Out.ret (by assumption) (by assumption) (fun q hq => hq) ⟨retI ?_, rfl⟩
        rw [elev, if_neg (not_or.mpr ⟨List.ne_nil_of_length_pos c1, List.ne_nil_of_length_pos c2⟩), if_pos (.inr (by omega))]
      · unfold Hold
        rename_i c1 c2 _ _ c3 _ _ c4
        rw [if_neg (not_or.mpr ⟨List.ne_nil_of_length_pos c1, List.ne_nil_of_length_pos c2⟩), if_neg (by omega)] at elev
        refine cut_next (fun s' => ∃ (m : Str → Option Value) (h : Heap) (tk : Nat) (x' y' : List Int) (ta tb : Tok), s' = { s with heap := h, toks := tk } ∧ Fr H L' h (fun z => if z = "a" then some (.str (strOf x') ta) else if z = "b" then some (.str (strOf y') tb) else if z = "max_cost" then some (.int mc t3) else m z) ∧ News H L' h [] ∧
          0 < x'.length ∧ x'.length ≤ y'.length ∧ y'.length ≤ 40 ∧ (∀ z ∈ x', Sg z) ∧ (∀ z ∈ y', Sg z) ∧ lev la lb mc = levPair x' y' mc) ?_ ?_
        · refine wpAny_If ?_
          k_steps
          · rename Fr _ _ _ _ => F9
            rename News _ _ _ _ => N9
            exact ⟨rfl, _, _, _, y, x, _, _, rfl, fr_over (by rfl) (fr_over (by rfl) (fr_over (by rfl) F9)), News.nil, by omega, by omega, by omega, hSy, hSx, by rw [elev, if_pos (by omega)]⟩
          · rename Fr _ _ _ _ => F9
            exact ⟨rfl, _, _, _, x, y, _, _, rfl, fr_over (by rfl) (fr_over (by rfl) (fr_over (by rfl) F9)), News.nil, by omega, by omega, by omega, hSx, hSy, by rw [elev, if_neg (by omega)]⟩
        · rintro s' ⟨m, h, tk, x', y', ta, tb, rfl, F, N, hx0, hxy, hy40, hSx', hSy', hres⟩
          k_steps
          · refine Out.ret (by assumption) (by assumption) (fun q hq => hq) ⟨retI ?_, rfl⟩
            rw [hres]
            unfold levPair
            rw [if_pos (by assumption)]
          unfold Hold
          rename_i hmc _ _ _ _ _ _ _ _ _ _ R _ _ ys rk hI _ _ _ _ _ _ _ _ _ _ _ hR F9 N9 _
          refine for_range (σ := LOut) y'.length (fun c => [(R, W.listOf c.vs.toArray c.n)]) (fun c => [("result", .int c.r c.tr)]) (fun _ => True) ["bchar", "distance", "minimum", "index", "substitute", "insert_delete"]
            (fun j c => IntsAre c.vs (rowAt (cst x' y') j x'.length) ∧ (j ≠ 0 → c.r = D (cst x' y') j x'.length) ∧ ∀ j', j' < j → far (cst x' y') x'.length mc j' = false) ⟨ys, rk, 0, _⟩ rfl hR rfl (by omega) F9 N9 trivial (List.forall_mem_cons.mpr ⟨rfl, List.forall_mem_nil _⟩)
            ⟨by rw [← rowAt_zero]; exact hI, fun h => absurd rfl h, fun _ h => absurd h (Nat.not_lt_zero _)⟩ ?_ ?_
          · rintro ⟨vs, n, r, tr⟩ j pre t u h tk own hpre hj hoff - ⟨hrow, hr, hfar⟩ F N
            dsimp only at *
            k_fold
            simp only [List.cons_append, List.nil_append] at N
            k_steps
            unfold Hold
            refine for_range (σ := LIn) x'.length (fun c => (R, W.listOf c.vs.toArray c.n) :: own) (fun c => [("distance", .int c.d c.td), ("result", .int c.r c.tr), ("minimum", .int c.mn c.tm)]) (fun _ => True) ["substitute", "insert_delete"]
              (fun i c => IntsAre c.vs (rowMix (cst x' y') j x'.length i) ∧ c.d = D (cst x' y') j i ∧ (c.r = if i = 0 then D (cst x' y') j 0 else D (cst x' y') (j + 1) i) ∧ MinOf (cst x' y') j i c.mn) ⟨vs, n, (j : Int) * 2, _, (j : Int) * 2, _, 9223372036854775807, _⟩
              rfl (by assumption) rfl (by omega) (by assumption) (by assumption) trivial (List.forall_mem_cons.mpr ⟨rfl, List.forall_mem_cons.mpr ⟨rfl, List.forall_mem_cons.mpr ⟨rfl, List.forall_mem_nil _⟩⟩⟩)
              ⟨by rw [rowMix_zero]; exact hrow, by rw [D_zero']; exact Int.mul_comm _ _, by rw [if_pos rfl, D_zero']; exact Int.mul_comm _ _, fun _ h => absurd h (Nat.not_lt_zero _), .inl ⟨rfl, rfl⟩⟩ ?_ ?_
            · rintro ⟨vs', n', d', td', r', tr', mn', tm'⟩ i pre' t' u' h' tk' own' hpre' hi hoff' - ⟨hrow', hd', hr', hmn'⟩ F N
              dsimp only at *
              k_fold
              simp only [List.cons_append, List.nil_append] at N
              have hlen' := rowMix_len (cst x' y') j x'.length i
              have hl1 : (pre' ++ [(i : Int)]).length = i + 1 := by simp [← hpre']
              have eG : (rowMix (cst x' y') j x'.length i).getD ((i : Int)).toNat 0 = D (cst x' y') j (i + 1) := by rw [Int.toNat_natCast]; exact rowMix_get _ _ _ _ hi
              have eX0 : (if d' + chg (y'.getD j 0) (x'.getD i 0) < (if (rowMix (cst x' y') j x'.length i).getD ((i : Int)).toNat 0 < r' then (rowMix (cst x' y') j x'.length i).getD ((i : Int)).toNat 0 else r') + 2 then d' + chg (y'.getD j 0) (x'.getD i 0) else (if (rowMix (cst x' y') j x'.length i).getD ((i : Int)).toNat 0 < r' then (rowMix (cst x' y') j x'.length i).getD ((i : Int)).toNat 0 else r') + 2) = D (cst x' y') (j + 1) (i + 1) := by
                rw [eG, hd', show chg (y'.getD j 0) (x'.getD i 0) = cst x' y' j i from rfl, ← cell_eq (cst x' y') (cst_le x' y') j i r' hr']
                (repeat' split) <;> omega
              have hup := D_upper (cst x' y') _ (j + 1) (i + 1) rfl
              k_steps
              all_goals unfold Hold
              · refine kst_endA (⟨_, _, _, _, _, _, _, _⟩ : LIn) (by assumption) (by assumption) (by rfl) trivial (List.forall_mem_cons.mpr ⟨rfl, List.forall_mem_cons.mpr ⟨rfl, List.forall_mem_cons.mpr ⟨rfl, List.forall_mem_nil _⟩⟩⟩) (by walk_at "same") ?_
                rw [hl1]
                exact ⟨by rw [← rowMix_set _ _ _ _ hi, ← eX0]; exact ints_set hrow' i, eG, by rw [if_neg (Nat.succ_ne_zero i)]; exact eX0, hmn'.next (by omega) (by rw [← eX0]; exact (if_pos (by assumption)).symm)⟩
              · refine kst_endA (⟨_, _, _, _, _, _, _, _⟩ : LIn) (by assumption) (by assumption) (by rfl) trivial (List.forall_mem_cons.mpr ⟨rfl, List.forall_mem_cons.mpr ⟨rfl, List.forall_mem_cons.mpr ⟨rfl, List.forall_mem_nil _⟩⟩⟩) (by walk_at "same") ?_
                rw [hl1]
                exact ⟨by rw [← rowMix_set _ _ _ _ hi, ← eX0]; exact ints_set hrow' i, eG, by rw [if_neg (Nat.succ_ne_zero i)]; exact eX0, hmn'.next (by omega) (by rw [← eX0]; exact (if_neg (by assumption)).symm)⟩
            · rintro ⟨vs', n', d', td', r', tr', mn', tm'⟩ u' h' tk' - ⟨hrow', hd', hr', hmn'⟩ F N
              dsimp only at *
              have hf := hmn'.far (mc := mc) hx0
              k_steps
              · refine Out.ret (new := []) (by assumption) (by assumption) (fun q hq => nomatch hq) ⟨retI ?_, rfl⟩
                rw [hres]
                unfold levPair
                rw [if_neg (by assumption), levRows_far hj (by rw [hf]; exact decide_eq_true (by assumption))]
              · unfold Hold
                refine kst_endA (⟨_, _, r', _⟩ : LOut) (by assumption) (by assumption) (by rfl) trivial (List.forall_mem_cons.mpr ⟨rfl, List.forall_mem_nil _⟩) (by walk_at "same") ?_
                rw [show (pre ++ [(j : Int)]).length = j + 1 by simp [← hpre]]
                refine ⟨by rw [← rowMix_end]; exact hrow', fun _ => by rw [if_neg (by omega)] at hr'; exact hr', fun j' hj' => ?_⟩
                by_cases e : j' = j
                · subst e; rw [hf]; exact decide_eq_false (by assumption)
                · exact hfar j' (by omega)
          · rintro ⟨vs, n, r, tr⟩ u h tk - ⟨hrow, hr, hfar⟩ F N
            dsimp only at *
            k_steps
            refine Out.ret (new := []) (by assumption) (by assumption) (fun q hq => nomatch hq) ⟨retI ?_, rfl⟩
            rw [hres]
            unfold levPair
            rw [if_neg (by assumption), levRows_end hfar]
            exact hr (by omega)
      · rename_i c1 c2 _ _ _
        refine Out.ret (by assumption) (by assumption) (fun q hq => hq) ⟨retI ?_, rfl⟩
        rw [elev, if_pos (.inr (List.length_eq_zero_iff.mp (by omega)))]
      · rename_i c1 _ _ _
        refine Out.ret (by assumption) (by assumption) (fun q hq => hq) ⟨retI ?_, rfl⟩
        rw [elev, if_pos (.inl (List.length_eq_zero_iff.mp (by omega)))]
end
end Mine

-- Lists
theorem Mine.freshLists : True := by
  w_top off
  trivial
namespace Mine
section
variable {prog : Program} {w : World} {A : Around} {E : Value → Shared → Prop} {s : Shared} {value slice : Expr} {l : Addr} {vs : List Value} {ns : List Int} {h₀ : Heap} {L : Addr} {m : Str → Option Value} {news : List (Addr × Obj)} {Q : Value → Shared → Prop}
theorem list_from {i : Nat} {ui : Tok} (F : Fr h₀ L s.heap m) (N : News h₀ L s.heap news) (hl : s.heap.IsList l vs.toArray) (hi : IntsAre vs ns) (hz : ns.length ≤ 1000)
    (h : ∀ D ws h', Fr h₀ L h' m → News h₀ L h' ((D, W.listOf (List.toArray ws) 0) :: news) → (∀ p ∈ news, p.1 < D) → IntsAre ws (ns.drop i) → Q (.ref D) { s with heap := h' })
    (hs : subscripted slice false (.ref l) (.ref s.heap.objs.size) = operate [.ref s.heap.objs.size, .ref l] (getItem (.ref l) (.ref s.heap.objs.size)) := by with_unfolding_all rfl) (ht : ∀ r, letTemporaryGo value (.ref l) r = pure () := by intro _; with_unfolding_all rfl) :
    wpAny (model prog w) A (subscriptTail value slice (.ref l) (.ref s.heap.objs.size)) Q E { s with heap := s.heap.push { cls := .type "slice", data := .fields #[.int (i : Int) ui, .none, .none] } } :=
  kmk_slice_ints (c := (ns.drop i).length) F N hl (.int _ _) .none hi (by have := kmk_from hi (x := (i : Int)) (by omega); rwa [Int.toNat_natCast] at this) rfl (fun D ws h' F' N' l1 hw _ _ => h D ws h' F' N' l1 hw) hs ht (kmk_sz hi (by rw [sizeLine_eq]; omega))
theorem list_butlast {uj : Tok} (F : Fr h₀ L s.heap m) (N : News h₀ L s.heap news) (hl : s.heap.IsList l vs.toArray) (hi : IntsAre vs ns) (hz : ns.length ≤ 1000)
    (h : ∀ D ws h', Fr h₀ L h' m → News h₀ L h' ((D, W.listOf (List.toArray ws) 0) :: news) → (∀ p ∈ news, p.1 < D) → IntsAre ws (ns.take (ns.length - 1)) → Q (.ref D) { s with heap := h' })
    (hs : subscripted slice false (.ref l) (.ref s.heap.objs.size) = operate [.ref s.heap.objs.size, .ref l] (getItem (.ref l) (.ref s.heap.objs.size)) := by with_unfolding_all rfl) (ht : ∀ r, letTemporaryGo value (.ref l) r = pure () := by intro _; with_unfolding_all rfl) :
    wpAny (model prog w) A (subscriptTail value slice (.ref l) (.ref s.heap.objs.size)) Q E { s with heap := s.heap.push { cls := .type "slice", data := .fields #[.none, .int (-1) uj, .none] } } :=
  kmk_slice_ints (c := (ns.take (ns.length - 1)).length) F N hl .none (.int _ _) hi (kmk_upto_neg hi (y := -1) (by omega)) rfl (fun D ws h' F' N' l1 hw _ _ => h D ws h' F' N' l1 hw) hs ht (kmk_sz hi (by rw [sizeLine_eq]; omega))
theorem truthy_L {Q : Bool → Shared → Prop} (hl : s.heap.IsList l vs.toArray) (hi : IntsAre vs ns) (hz : ns.length ≤ 1000) (h : Q (decide (0 < ns.length)) { s with toks := s.toks + 1 + 1 }) : wpAny (model prog w) A (truthy (.ref l)) Q E s :=
  truthy_ints_fit hl hi (by omega) h
theorem last_L {u : Tok} (hl : s.heap.IsList l vs.toArray) (hi : IntsAre vs ns) (h0 : 0 < ns.length) (hz : ns.length ≤ 1000) (h : ∀ t, Q (.int (ns.getD (ns.length - 1) 0) t) s)
    (hs : subscripted slice false (.ref l) (.int (-1) u) = operate [.ref l, .int (-1) u] (getItem (.ref l) (.int (-1) u)) := by with_unfolding_all rfl) :
    wpAny (model prog w) A (subscriptTail value slice (.ref l) (.int (-1) u)) Q E s :=
  item_list_ints_negR hl hi (by omega) (by omega) (by omega) (fun t => by
    rw [show ((-1 : Int) + (ns.length : Nat)).toNat = ns.length - 1 by omega]; exact h t) hs
end
end Mine

-- Wmid
theorem Mine.freshWmid : True := by
  w_top off
  trivial
namespace Mine
structure MSt where
  l : Addr
  r : Addr
  vl : List Value
  vr : List Value
  nl : Nat
  nr : Nat
  j : Nat
section
variable {prog : Program} {w : World} {p : Program} {loose : List Str} {mean : ExcName → Option Value} {mg mb : Str → Option Value}
local macro_rules | `(tactic| walk_at "exec While BoolOp cons nil") => `(tactic| (refine Hold.out ?_))
local macro_rules | `(tactic| walk_at "KswEnd") => `(tactic| (refine Hold.out ?_))
local macro_rules | `(tactic| walk_at "same2") => `(tactic| (intro z h2 h3; (try simp only [List.forall_mem_cons, List.not_mem_nil, false_implies, implies_true, and_true, ne_eq] at h2); (try simp only [List.contains_cons, List.contains_nil, Bool.or_false, Bool.or_eq_false_iff, beq_eq_false_iff_ne, ne_eq] at h3); (first | rfl | (simp [kstB, h2, h3]; done) | (simp [kstB, h3]; done) | (simp [kstB, h2]; done))))
local macro_rules | `(tactic| walk_at "subscriptTail Name Slice ref ref") => `(tactic| ((with_reducible show wpAny _ _ (subscriptTail _ (Expr.Slice (some _) none none _) (Value.ref _) _) _ _ _); k_dflt (refine' list_from (s := ⟨_, _, _, _, _⟩) ?k1 ?k2 ?k3 ?k4 ?k5 ?_; (case k1 => k_asm); (case k2 => k_asm); (case k3 => first | exact stays_list (Fr.keep (by k_asm)) (by assumption) | exact News.isList (by k_asm) (by k_mem)); (case k4 => assumption); (case k5 => omega); k_whole); intro D' ws' h' F' N' l1 hI'; (try k_lt l1); (try k_sweep)))
local macro_rules | `(tactic| walk_at "subscriptTail Name Slice ref ref") => `(tactic| ((with_reducible show wpAny _ _ (subscriptTail _ (Expr.Slice none (some _) none _) (Value.ref _) _) _ _ _); k_dflt (refine' list_butlast (s := ⟨_, _, _, _, _⟩) ?k1 ?k2 ?k3 ?k4 ?k5 ?_; (case k1 => k_asm); (case k2 => k_asm); (case k3 => first | exact stays_list (Fr.keep (by k_asm)) (by assumption) | exact News.isList (by k_asm) (by k_mem)); (case k4 => assumption); (case k5 => ((try simp only [List.length_take, List.length_drop]); omega)); k_whole); intro D' ws' h' F' N' l1 hI'; (try k_lt l1); (try k_sweep)))
local macro_rules | `(tactic| walk_at "truthy ref") => `(tactic| ((with_reducible show wpAny _ _ (truthy (Value.ref _)) _ _ _); k_dflt (refine' truthy_L ?k3 ?k4 ?k5 ?_; (case k3 => first | exact News.isList (by k_asm) (by k_mem) | exact stays_list (Fr.keep (by k_asm)) (by assumption)); (case k4 => assumption); (case k5 => ((try simp only [List.length_take, List.length_drop]); omega)); k_whole); (try simp only [List.length_take])))
local macro_rules | `(tactic| walk_at "subscriptTail Name UnaryOp ref int") => `(tactic| ((with_reducible show wpAny _ _ (subscriptTail _ _ (Value.ref _) (Value.int _ _)) _ _ _); k_dflt (refine' last_L ?k3 ?k4 ?k6 ?k5 ?_; (case k3 => exact News.isList (by k_asm) (by k_mem)); (case k4 => assumption); (case k6 => ((try simp only [List.length_take, List.length_drop]); omega)); (case k5 => ((try simp only [List.length_take, List.length_drop]); omega)); k_whole); intro t'))
set_option maxRecDepth 100000 in
set_option maxHeartbeats 8000000 in
theorem middles_call (la lb : Addr) (va vb : List Value) (a b : List Int) (H : Heap) (hla : H.IsList la va.toArray) (hlb : H.IsList lb vb.toArray) (hia : IntsAre va a) (hib : IntsAre vb b) (hza : a.length ≤ 200) (hzb : b.length ≤ 200) :
    Spec prog w p loose mean mg mb 49 [.ref la, .ref lb] H (fun v new => ∃ T l r vl vr nl nr nt, v = .ref T ∧ new = [(T, { cls := .type "tuple", data := .seq #[.ref l, .ref r] nt }), (r, W.listOf (List.toArray vr) nr), (l, W.listOf (List.toArray vl) nl)] ∧
      IntsAre vl (midL a b) ∧ IntsAre vr (midR a b)) 2 := by
  refine Spec.enter (f := 49) (by k_is) (by k_is) (fun s => BindsTo.of_eq rfl) (locs rfl) rfl rfl rfl (by decide) (by decide) ?_
  intro dp un gd outer A₀ base L' h₁ s B F N X T hdp hun
  k_fold
  k_steps
  unfold Hold
  refine while_one (σ := Nat × Tok) (fun _ => []) (fun c => [("start", .int (c.1 : Int) c.2)]) (fun _ => True) [] (fun c => c.1 ≤ pref a b) (fun c => a.length - c.1) (fun c => c.1 = pref a b) (0, _) (by assumption) (by assumption) trivial (List.forall_mem_cons.mpr ⟨rfl, List.forall_mem_nil _⟩) (by simp) ?_ ?_
  · rintro ⟨i, ti⟩ u h tk - hP F N
    dsimp only at *
    k_fold
    have hP1 := Nat.le_trans hP (pref_le_left a b)
    have hP2 := Nat.le_trans hP (pref_le_right a b)
    have hp := pref_lt a b i hP
    k_steps
    · unfold Hold
      rename_i c1 c2 c3 _ _ _
      rw [Int.toNat_natCast] at c3
      have := hp.mpr ⟨by omega, by omega, c3⟩
      exact ksw_end (i + 1, _) (by assumption) (by assumption) (fun _ h => nomatch h) trivial (List.forall_mem_cons.mpr ⟨rfl, List.forall_mem_nil _⟩) (by walk_at "same2") this (by dsimp only; omega)
    · rename_i c1 c2 c3
      rw [Int.toNat_natCast] at c3
      exact Exit.intro F N (Nat.le_antisymm hP (Nat.le_of_not_lt fun q => c3 (hp.mp q).2.2))
    · exact Exit.intro F N (Nat.le_antisymm hP (Nat.le_of_not_lt fun q => by have := hp.mp q; omega))
    · exact Exit.intro F N (Nat.le_antisymm hP (Nat.le_of_not_lt fun q => by have := hp.mp q; omega))
  · rintro ⟨i, ti⟩ u h tk - hP hB F N
    dsimp only at *
    subst hB
    have hP1 := pref_le_left a b
    have hP2 := pref_le_right a b
    k_steps
    unfold Hold
    generalize hea : a.drop (pref a b) = a' at *
    generalize heb : b.drop (pref a b) = b' at *
    have hza' : a'.length ≤ 200 := by rw [← hea]; simp; omega
    have hzb' : b'.length ≤ 200 := by rw [← heb]; simp; omega
    rename_i dl wl _ _ _ dr wr _ _ _ F9 N9 hil hir
    refine while_one (σ := MSt) (fun c => [(c.r, W.listOf c.vr.toArray c.nr), (c.l, W.listOf c.vl.toArray c.nl)]) (fun c => [("left", .ref c.l), ("right", .ref c.r)]) (fun _ => True) []
      (fun c => c.j ≤ sfx a' b' ∧ IntsAre c.vl (a'.take (a'.length - c.j)) ∧ IntsAre c.vr (b'.take (b'.length - c.j))) (fun c => a'.length - c.j) (fun c => c.j = sfx a' b') ⟨dl, dr, wl, wr, 0, 0, 0⟩ F9 N9 trivial (List.forall_mem_cons.mpr ⟨rfl, List.forall_mem_cons.mpr ⟨rfl, List.forall_mem_nil _⟩⟩) ⟨Nat.zero_le _, by simpa using hil, by simpa using hir⟩ ?_ ?_
    · rintro ⟨l, r, vl, vr, nl, nr, j⟩ u h tk - ⟨hP, hvl, hvr⟩ F N
      dsimp only at *
      k_fold
      have hQ1 := Nat.le_trans hP (sfx_le_left a' b')
      have hQ2 := Nat.le_trans hP (sfx_le_right a' b')
      have hp := sfx_lt a' b' j hP
      k_steps
      · unfold Hold
        rename_i c1 c2 _ _ c3 Dl wl _ hl _ _ Dr wr _ hr _ _ F9 N9
        rw [take_last a' j (by omega), take_last b' j (by omega)] at c3
        rw [take_butlast] at hl hr
        have := hp.mpr ⟨by omega, by omega, c3⟩
        exact ksw_end ⟨Dl, Dr, wl, wr, 0, 0, j + 1⟩ F9 N9 (fun q hq => by
          rcases List.mem_cons.mp hq with rfl | hq
          · exact .head _
          · rw [List.mem_singleton.mp hq]; exact .tail _ (.head _)) trivial (List.forall_mem_cons.mpr ⟨rfl, List.forall_mem_cons.mpr ⟨rfl, List.forall_mem_nil _⟩⟩) (by walk_at "same2") ⟨this, hl, hr⟩ (by dsimp only; omega)
      · rename_i c1 c2 _ _ c3
        rw [take_last a' j (by omega), take_last b' j (by omega)] at c3
        exact Exit.intro F N (Nat.le_antisymm hP (Nat.le_of_not_lt fun q => c3 (hp.mp q).2.2))
      · exact Exit.intro F N (Nat.le_antisymm hP (Nat.le_of_not_lt fun q => by have := hp.mp q; omega))
      · exact Exit.intro F N (Nat.le_antisymm hP (Nat.le_of_not_lt fun q => by have := hp.mp q; omega))
    · rintro ⟨l, r, vl, vr, nl, nr, j⟩ u h tk - ⟨hP, hvl, hvr⟩ hB F N
      dsimp only at *
      subst hB
      k_steps
      show Out _ _ _ _ _
      rename_i F9 N9 _
      exact Out.ret F9 N9 (fun q hq => hq) ⟨_, _, _, _, _, _, _, _, rfl, rfl, by unfold midL; rw [hea, heb]; exact hvl, by unfold midR; rw [hea, heb]; exact hvr⟩
end
end Mine

-- Pure2
theorem Mine.freshPure2 : True := by
  w_top off
  trivial
namespace Mine
/-- a square's price -/
def Dq (c : Nat → Nat → Int) (wd q : Nat) : Int := D c (q / wd) (q % wd)
/-- a step from a square to the next -/
inductive Edge (c : Nat → Nat → Int) (m n q : Nat) : Nat → Int → Prop
  | down : q / (n + 1) < m → Edge c m n q (q + (n + 1)) 2
  | right : q % (n + 1) < n → Edge c m n q (q + 1) 2
  | diag : q / (n + 1) < m → q % (n + 1) < n → Edge c m n q (q + (n + 1) + 1) (c (q / (n + 1)) (q % (n + 1)))

theorem sq_down (n q : Nat) : (q + (n + 1)) / (n + 1) = q / (n + 1) + 1 ∧ (q + (n + 1)) % (n + 1) = q % (n + 1) := by
  rw [Nat.add_div_right q (show 0 < n + 1 by omega), Nat.add_mod_right]
  exact ⟨rfl, rfl⟩
theorem sq_right (n q : Nat) (h : q % (n + 1) < n) : (q + 1) / (n + 1) = q / (n + 1) ∧ (q + 1) % (n + 1) = q % (n + 1) + 1 := by
  have hq := Nat.div_add_mod q (n + 1)
  have e : q + 1 = (q % (n + 1) + 1) + (n + 1) * (q / (n + 1)) := by omega
  constructor
  · rw [e, Nat.add_mul_div_left _ _ (show 0 < n + 1 by omega), Nat.div_eq_of_lt (by omega)]; omega
  · rw [e, Nat.add_mul_mod_self_left, Nat.mod_eq_of_lt (by omega)]
theorem sq_lt (m n q : Nat) : q < (m + 1) * (n + 1) ↔ q / (n + 1) ≤ m := by
  rw [← Nat.div_lt_iff_lt_mul (show 0 < n + 1 by omega)]
  omega
theorem sq_mod (n q : Nat) : q % (n + 1) ≤ n := by have := Nat.mod_lt q (show 0 < n + 1 by omega); omega

theorem D_down (c : Nat → Nat → Int) (i j : Nat) : D c (i + 1) j ≤ D c i j + 2 := by
  cases j with
  | zero => rw [D_zero', D_zero']; omega
  | succ j => rw [D_succ]; omega
theorem D_right (c : Nat → Nat → Int) (i j : Nat) : D c i (j + 1) ≤ D c i j + 2 := by
  cases i with
  | zero => rw [D_zero, D_zero]; omega
  | succ i => rw [D_succ]; omega
theorem D_diag (c : Nat → Nat → Int) (i j : Nat) : D c (i + 1) (j + 1) ≤ D c i j + c i j := by rw [D_succ]; omega
theorem D_nonneg (c : Nat → Nat → Int) (hc : ∀ i j, 0 ≤ c i j) (i j : Nat) : 0 ≤ D c i j := (D_lower c hc _ i j rfl).2.2

theorem Edge.le {c : Nat → Nat → Int} {m n q q' : Nat} {e : Int} (h : Edge c m n q q' e) : Dq c (n + 1) q' ≤ Dq c (n + 1) q + e := by
  unfold Dq
  cases h with
  | down h => rw [(sq_down n q).1, (sq_down n q).2]; exact D_down _ _ _
  | right h => rw [(sq_right n q h).1, (sq_right n q h).2]; exact D_right _ _ _
  | diag h1 h2 =>
    have e1 := sq_down n (q + 1)
    have e2 := sq_right n q h2
    rw [show q + (n + 1) + 1 = q + 1 + (n + 1) by omega, e1.1, e1.2, e2.1, e2.2]
    exact D_diag _ _ _
theorem Edge.lt {c : Nat → Nat → Int} {m n q q' : Nat} {e : Int} (h : Edge c m n q q' e) (hq : q < (m + 1) * (n + 1)) : q' < (m + 1) * (n + 1) := by
  rw [sq_lt] at hq ⊢
  cases h with
  | down h => rw [(sq_down n q).1]; omega
  | right h =>
    rw [(sq_right n q h).1]
    exact hq
  | diag h1 h2 => rw [show q + (n + 1) + 1 = q + 1 + (n + 1) by omega, (sq_down n (q + 1)).1, (sq_right n q h2).1]; omega
theorem co_of {n q i j : Nat} (e : q = j + (n + 1) * i) (h : j ≤ n) : q / (n + 1) = i ∧ q % (n + 1) = j := by
  constructor
  · rw [e, Nat.add_mul_div_left _ _ (show 0 < n + 1 by omega), Nat.div_eq_of_lt (by omega), Nat.zero_add]
  · rw [e, Nat.add_mul_mod_self_left, Nat.mod_eq_of_lt (by omega)]
/-- every square but the first has one before it that pays for it -/
theorem edge_back (c : Nat → Nat → Int) (m n q : Nat) (hq : q < (m + 1) * (n + 1)) (h0 : q ≠ 0) : ∃ q' e, Edge c m n q' q e ∧ q' < q ∧ Dq c (n + 1) q' + e = Dq c (n + 1) q := by
  have hqd := Nat.div_add_mod q (n + 1)
  have hm := sq_mod n q
  have hl := (sq_lt m n q).mp hq
  have hDq : Dq c (n + 1) q = D c (q / (n + 1)) (q % (n + 1)) := rfl
  clear hq
  generalize q / (n + 1) = i at *
  generalize q % (n + 1) = j at *
  cases i with
  | zero =>
    cases j with
    | zero => exact absurd (by rw [← hqd]; simp) h0
    | succ j =>
      have eq : q = j + 1 := by rw [← hqd]; simp
      obtain ⟨e1, e2⟩ := co_of (n := n) (q := j) (i := 0) (j := j) (by simp) (by omega)
      have ed : Edge c m n j (j + 1) 2 := .right (by rw [e2]; omega)
      refine ⟨j, 2, by rw [eq]; exact ed, by omega, ?_⟩
      rw [hDq]
      unfold Dq
      rw [e1, e2, D_zero, D_zero]
      omega
  | succ i =>
    have hmul : (n + 1) * (i + 1) = (n + 1) * i + (n + 1) := by rw [Nat.mul_add, Nat.mul_one]
    rw [hmul] at hqd
    generalize hb : (n + 1) * i = b at *
    obtain ⟨u1, u2⟩ := co_of (n := n) (q := j + b) (i := i) (j := j) (by rw [hb]) hm
    have ed : Edge c m n (j + b) (j + b + (n + 1)) 2 := .down (by rw [u1]; omega)
    have eu : j + b + (n + 1) = q := by omega
    rw [eu] at ed
    cases j with
    | zero =>
      refine ⟨_, _, ed, by omega, ?_⟩
      rw [hDq]
      unfold Dq
      rw [u1, u2, D_zero', D_zero']
      omega
    | succ j =>
      obtain ⟨l1, l2⟩ := co_of (n := n) (q := q - 1) (i := i + 1) (j := j) (by rw [hmul]; omega) (by omega)
      have er : Edge c m n (q - 1) (q - 1 + 1) 2 := .right (by rw [l2]; omega)
      rw [show q - 1 + 1 = q by omega] at er
      obtain ⟨d1, d2⟩ := co_of (n := n) (q := j + b) (i := i) (j := j) (by rw [hb]) (by omega)
      have eg : Edge c m n (j + b) (j + b + (n + 1) + 1) (c ((j + b) / (n + 1)) ((j + b) % (n + 1))) := .diag (by rw [d1]; omega) (by rw [d2]; omega)
      rw [show j + b + (n + 1) + 1 = q by omega, d1, d2] at eg
      have hD := D_succ c i j
      by_cases h1 : D c (i + 1) (j + 1) = D c i (j + 1) + 2
      · exact ⟨_, _, ed, by omega, by rw [hDq]; unfold Dq; rw [u1, u2, h1]⟩
      · by_cases h2 : D c (i + 1) (j + 1) = D c (i + 1) j + 2
        · exact ⟨_, _, er, by omega, by rw [hDq]; unfold Dq; rw [l1, l2, h2]⟩
        · refine ⟨_, _, eg, by omega, ?_⟩
          rw [hDq]
          unfold Dq
          rw [d1, d2]
          omega
theorem Dq_nonneg (c : Nat → Nat → Int) (hc : ∀ i j, 0 ≤ c i j) (wd q : Nat) : 0 ≤ Dq c wd q := D_nonneg c hc _ _
theorem Dq_upper (c : Nat → Nat → Int) (m n q : Nat) (hq : q < (m + 1) * (n + 1)) : Dq c (n + 1) q ≤ 2 * ((m : Int) + n) := by
  unfold Dq
  have h1 := D_upper c _ (q / (n + 1)) (q % (n + 1)) rfl
  have h2 := sq_mod n q
  have h3 := (sq_lt m n q).mp hq
  omega
theorem nodup_bound : ∀ (T : Nat) (l : List Nat), l.Nodup → (∀ x ∈ l, x < T) → l.length ≤ T
  | 0, l, _, h => by
    cases l with
    | nil => simp
    | cons x l => exact absurd (h x (.head _)) (Nat.not_lt_zero _)
  | T + 1, l, hn, h => by
    have h1 := nodup_bound T (l.erase T) (hn.erase T) (fun x hx => by
      have hx' := (List.Nodup.mem_erase_iff hn).mp hx
      have := h x hx'.2
      have := hx'.1
      omega)
    by_cases hm : T ∈ l
    · have := List.length_erase_of_mem hm
      have : 0 < l.length := List.length_pos_of_mem hm
      omega
    · rw [List.erase_of_not_mem hm] at h1
      omega
end Mine

-- Pure3
theorem Mine.freshPure3 : True := by
  w_top off
  trivial
namespace Mine
/-- the waves with one square more behind wave k -/
def addAt (wv : Nat → List Nat) (k q : Nat) : Nat → List Nat := fun t => if t = k then wv t ++ [q] else wv t
theorem addAt_mem {wv : Nat → List Nat} {k q t x : Nat} (h : x ∈ wv t) : x ∈ addAt wv k q t := by
  unfold addAt
  split
  · exact List.mem_append_left _ h
  · exact h
theorem addAt_self (wv : Nat → List Nat) (k q : Nat) : q ∈ addAt wv k q k := by
  unfold addAt
  rw [if_pos rfl]
  exact List.mem_append_right _ (.head _)
theorem addAt_back {wv : Nat → List Nat} {k q t x : Nat} (h : x ∈ addAt wv k q t) : x ∈ wv t ∨ (t = k ∧ x = q) := by
  unfold addAt at h
  split at h
  · rename_i e
    rcases List.mem_append.mp h with h | h
    · exact .inl h
    · exact .inr ⟨e, List.mem_singleton.mp h⟩
  · exact .inl h
theorem addAt_take {wv : Nat → List Nat} {k q t s x : Nat} (hs : s ≤ (wv t).length) (h : x ∈ (addAt wv k q t).take s) : x ∈ (wv t).take s := by
  unfold addAt at h
  split at h
  · rwa [List.take_append_of_le_length hs] at h
  · exact h
theorem addAt_len (wv : Nat → List Nat) (k q t : Nat) : (wv t).length ≤ (addAt wv k q t).length ∧ (addAt wv k q t).length ≤ (wv t).length + 1 := by
  unfold addAt
  split <;> simp
theorem addAt_len_ne (wv : Nat → List Nat) {k q t : Nat} (h : t ≠ k) : (addAt wv k q t).length = (wv t).length := by
  unfold addAt
  rw [if_neg h]

theorem nodup_sub : ∀ {l ks : List Nat}, l.Nodup → (∀ x ∈ l, x ∈ ks) → l.length ≤ ks.length
  | [], _, _, _ => by simp
  | x :: l, ks, hn, h => by
    have hx := h x (.head _)
    have h1 := nodup_sub (l := l) (ks := ks.erase x) (List.nodup_cons.mp hn).2 (fun y hy => by
      refine (List.mem_erase_of_ne ?_).mpr (h y (.tail _ hy))
      rintro rfl
      exact (List.nodup_cons.mp hn).1 hy)
    have h2 := List.length_erase_of_mem hx
    have h3 := List.length_pos_of_mem hx
    simp only [List.length_cons]
    omega
/-- what holds of the reckoning by waves, wave k being at work with s of its squares looked at -/
structure Inv (c : Nat → Nat → Int) (m n k s : Nat) (ks : List Nat) (wv : Nat → List Nat) : Prop where
  nodup : ks.Nodup
  small : ∀ q ∈ ks, q < (m + 1) * (n + 1) ∧ Dq c (n + 1) q ≤ k
  full : ∀ q, q < (m + 1) * (n + 1) → Dq c (n + 1) q < k → q ∈ ks
  sound : ∀ t q, k ≤ t → q ∈ wv t → q < (m + 1) * (n + 1) ∧ Dq c (n + 1) q ≤ t
  edges : ∀ q ∈ ks, ∀ q' e, Edge c m n q q' e → q' ∈ wv (Dq c (n + 1) q + e).toNat
  zero : 0 ∈ wv 0
  done : ∀ q ∈ (wv k).take s, q ∈ ks

section
variable {c : Nat → Nat → Int} {m n k s : Nat} {ks : List Nat} {wv : Nat → List Nat}
theorem Inv.start (c : Nat → Nat → Int) (m n : Nat) (hc : ∀ i j, 0 ≤ c i j) : Inv c m n 0 0 [] (fun t => if t = 0 then [0] else []) where
  nodup := .nil
  small := fun _ h => nomatch h
  full := fun q _ h => absurd h (by have := Dq_nonneg c hc (n + 1) q; omega)
  sound := fun t q _ h => by
    split at h
    · rw [List.mem_singleton.mp h]
      refine ⟨Nat.mul_pos (by omega) (by omega), ?_⟩
      unfold Dq
      rw [Nat.zero_div, Nat.zero_mod, D_zero]
      omega
    · cases h
  edges := fun _ h => nomatch h
  zero := .head _
  done := fun _ h => by simp at h
/-- a wave is through -/
theorem Inv.next (hc : ∀ i j, 0 ≤ c i j) (I : Inv c m n k s ks wv) (hs : (wv k).length ≤ s) : Inv c m n (k + 1) 0 ks wv where
  nodup := I.nodup
  small := fun q h => ⟨(I.small q h).1, by have := (I.small q h).2; omega⟩
  full := by
    have all : ∀ q, q ∈ wv k → q ∈ ks := fun q h => I.done q (by rw [List.take_of_length_le hs]; exact h)
    intro q
    induction q using Nat.strongRecOn with
    | ind q ih =>
      intro hq hD
      by_cases hlt : Dq c (n + 1) q < k
      · exact I.full q hq hlt
      · have hk : Dq c (n + 1) q = k := by omega
        by_cases h0 : q = 0
        · subst h0
          have : Dq c (n + 1) 0 = 0 := by unfold Dq; rw [Nat.zero_div, Nat.zero_mod, D_zero]; rfl
          have hk0 : k = 0 := by omega
          exact all 0 (by rw [hk0]; exact I.zero)
        · obtain ⟨q', e, ed, hlt', he⟩ := edge_back c m n q hq h0
          have he0 : 0 ≤ e := by cases ed <;> first | omega | exact hc _ _
          have hq' : q' ∈ ks := ih q' hlt' (by omega) (by omega)
          have := I.edges q' hq' q e ed
          rw [he, hk, Int.toNat_natCast] at this
          exact all q this
  sound := fun t q ht h => I.sound t q (by omega) h
  edges := I.edges
  zero := I.zero
  done := fun _ h => by simp at h
/-- a square that has its price -/
theorem Inv.skip (I : Inv c m n k s ks wv) {q : Nat} (hs : (wv k)[s]? = some q) (hq : q ∈ ks) : Inv c m n k (s + 1) ks wv :=
  ⟨I.nodup, I.small, I.full, I.sound, I.edges, I.zero, fun x hx => by
    rw [List.take_add_one, hs] at hx
    rcases List.mem_append.mp hx with hx | hx
    · exact I.done x hx
    · rw [List.mem_singleton.mp hx]; exact hq⟩
theorem Inv.price (I : Inv c m n k s ks wv) {q : Nat} (hs : (wv k)[s]? = some q) (hq : q ∉ ks) : Dq c (n + 1) q = k ∧ q < (m + 1) * (n + 1) := by
  have h := I.sound k q (Nat.le_refl _) (List.mem_of_getElem? hs)
  refine ⟨?_, h.1⟩
  by_cases hlt : Dq c (n + 1) q < k
  · exact absurd (I.full q h.1 hlt) hq
  · omega
/-- a square that gets its price: any waves that hold what its steps ask, and nothing unsound -/
theorem Inv.put (I : Inv c m n k s ks wv) {q : Nat} (hs : (wv k)[s]? = some q) (hq : q ∉ ks) {wv' : Nat → List Nat} (hup : ∀ t x, x ∈ wv t → x ∈ wv' t)
    (hnew : ∀ t x, x ∈ wv' t → x ∈ wv t ∨ ∃ e, Edge c m n q x e ∧ t = ((k : Int) + e).toNat) (hc : ∀ i j, 0 ≤ c i j) (hed : ∀ x e, Edge c m n q x e → x ∈ wv' ((k : Int) + e).toNat) (htk : ∀ x, x ∈ (wv' k).take (s + 1) → x ∈ (wv k).take (s + 1)) :
    Inv c m n k (s + 1) (ks ++ [q]) wv' := by
  obtain ⟨hD, hT⟩ := I.price hs hq
  refine ⟨?_, ?_, ?_, ?_, ?_, hup _ _ I.zero, ?_⟩
  · rw [List.nodup_append]
    exact ⟨I.nodup, by simp, fun a ha b hb => by rw [List.mem_singleton.mp hb]; exact fun e => hq (e ▸ ha)⟩
  · intro x hx
    rcases List.mem_append.mp hx with hx | hx
    · exact I.small x hx
    · rw [List.mem_singleton.mp hx]; exact ⟨hT, by omega⟩
  · exact fun x hx hlt => List.mem_append_left _ (I.full x hx hlt)
  · intro t x ht hx
    rcases hnew t x hx with hx | ⟨e, ed, rfl⟩
    · exact I.sound t x ht hx
    · have h1 := ed.le
      have h2 := ed.lt hT
      have he0 : 0 ≤ e := by cases ed <;> first | omega | exact hc _ _
      exact ⟨h2, by omega⟩
  · intro x hx x' e ed
    rcases List.mem_append.mp hx with hx | hx
    · exact hup _ _ (I.edges x hx x' e ed)
    · rw [List.mem_singleton.mp hx] at ed ⊢
      rw [hD]
      exact hed x' e ed
  · intro x hx
    have hx := htk x hx
    rw [List.take_add_one, hs] at hx
    rcases List.mem_append.mp hx with hx | hx
    · exact List.mem_append_left _ (I.done x hx)
    · exact List.mem_append_right _ hx
theorem Inv.count (I : Inv c m n k s ks wv) : ks.length ≤ (m + 1) * (n + 1) := nodup_bound _ _ I.nodup fun x hx => (I.small x hx).1
/-- some square has no price yet: its wave is not past -/
theorem Inv.more (I : Inv c m n k s ks wv) (h : ks.length < (m + 1) * (n + 1)) : (k : Int) ≤ 2 * ((m : Int) + n) := by
  by_cases hk : (k : Int) ≤ 2 * ((m : Int) + n)
  · exact hk
  · have hall : ∀ q, q < (m + 1) * (n + 1) → q ∈ ks := fun q hq => I.full q hq (by have := Dq_upper c m n q hq; omega)
    have hr : ∀ T, T ≤ (m + 1) * (n + 1) → T ≤ ks.length := by
      intro T hT
      have : (List.range T).length ≤ ks.length := by
        refine nodup_sub (List.nodup_range) fun x hx => hall x (by have := List.mem_range.mp hx; omega)
      simpa using this
    have := hr _ (Nat.le_refl _)
    omega
/-- as many prices as squares: every square has its price -/
theorem Inv.whole (I : Inv c m n k s ks wv) (h : (m + 1) * (n + 1) ≤ ks.length) : ∀ q, q < (m + 1) * (n + 1) → q ∈ ks := by
  intro q hq
  by_cases hm : q ∈ ks
  · exact hm
  · have := nodup_bound ((m + 1) * (n + 1)) (q :: ks) (List.nodup_cons.mpr ⟨hm, I.nodup⟩) (fun x hx => by
      rcases List.mem_cons.mp hx with rfl | hx
      · exact hq
      · exact (I.small x hx).1)
    simp at this
    omega
end
end Mine

-- Pure4
theorem Mine.freshPure4 : True := by
  w_top off
  trivial
namespace Mine
section
variable {c : Nat → Nat → Int} {m n k s : Nat} {ks : List Nat} {wv : Nat → List Nat} {q : Nat}
theorem take_ok {wv : Nat → List Nat} (hs : (wv k)[s]? = some q) : s + 1 ≤ (wv k).length := (List.getElem?_eq_some_iff.mp hs).1
theorem Inv.put00 (I : Inv c m n k s ks wv) (hs : (wv k)[s]? = some q) (hq : q ∉ ks) (hc : ∀ i j, 0 ≤ c i j) (h1 : ¬ q / (n + 1) < m) (h2 : ¬ q % (n + 1) < n) : Inv c m n k (s + 1) (ks ++ [q]) wv := by
  refine I.put hs hq (fun _ _ h => h) (fun _ _ h => .inl h) hc (fun x e ed => ?_) (fun _ h => h)
  cases ed with
  | down h => exact absurd h h1
  | right h => exact absurd h h2
  | diag h _ => exact absurd h h1
theorem Inv.put10 (I : Inv c m n k s ks wv) (hs : (wv k)[s]? = some q) (hq : q ∉ ks) (hc : ∀ i j, 0 ≤ c i j) (h1 : q / (n + 1) < m) (h2 : ¬ q % (n + 1) < n) : Inv c m n k (s + 1) (ks ++ [q]) (addAt wv ((k : Int) + 2).toNat (q + (n + 1))) := by
  refine I.put hs hq (fun _ _ h => addAt_mem h) (fun t x h => ?_) hc (fun x e ed => ?_) (fun _ h => addAt_take (take_ok hs) h)
  · rcases addAt_back h with h | ⟨rfl, rfl⟩
    · exact .inl h
    · exact .inr ⟨_, .down h1, rfl⟩
  · cases ed with
    | down h => exact addAt_self _ _ _
    | right h => exact absurd h h2
    | diag _ h => exact absurd h h2
theorem Inv.put01 (I : Inv c m n k s ks wv) (hs : (wv k)[s]? = some q) (hq : q ∉ ks) (hc : ∀ i j, 0 ≤ c i j) (h1 : ¬ q / (n + 1) < m) (h2 : q % (n + 1) < n) : Inv c m n k (s + 1) (ks ++ [q]) (addAt wv ((k : Int) + 2).toNat (q + 1)) := by
  refine I.put hs hq (fun _ _ h => addAt_mem h) (fun t x h => ?_) hc (fun x e ed => ?_) (fun _ h => addAt_take (take_ok hs) h)
  · rcases addAt_back h with h | ⟨rfl, rfl⟩
    · exact .inl h
    · exact .inr ⟨_, .right h2, rfl⟩
  · cases ed with
    | down h => exact absurd h h1
    | right h => exact addAt_self _ _ _
    | diag h _ => exact absurd h h1
theorem Inv.put11 (I : Inv c m n k s ks wv) (hs : (wv k)[s]? = some q) (hq : q ∉ ks) (hc : ∀ i j, 0 ≤ c i j) (h1 : q / (n + 1) < m) (h2 : q % (n + 1) < n) {z : Int} (hz : z = c (q / (n + 1)) (q % (n + 1))) :
    Inv c m n k (s + 1) (ks ++ [q]) (addAt (addAt (addAt wv ((k : Int) + 2).toNat (q + (n + 1))) ((k : Int) + 2).toNat (q + 1)) ((k : Int) + z).toNat (q + (n + 1) + 1)) := by
  subst hz
  refine I.put hs hq (fun _ _ h => addAt_mem (addAt_mem (addAt_mem h))) (fun t x h => ?_) hc (fun x e ed => ?_) (fun x h => ?_)
  · rcases addAt_back h with h | ⟨rfl, rfl⟩
    · rcases addAt_back h with h | ⟨rfl, rfl⟩
      · rcases addAt_back h with h | ⟨rfl, rfl⟩
        · exact .inl h
        · exact .inr ⟨_, .down h1, rfl⟩
      · exact .inr ⟨_, .right h2, rfl⟩
    · exact .inr ⟨_, .diag h1 h2, rfl⟩
  · cases ed with
    | down h => exact addAt_mem (addAt_mem (addAt_self _ _ _))
    | right h => exact addAt_mem (addAt_self _ _ _)
    | diag _ _ => exact addAt_self _ _ _
  · have hl := take_ok hs
    have l1 := addAt_len wv ((k : Int) + 2).toNat (q + (n + 1)) k
    have l2 := addAt_len (addAt wv ((k : Int) + 2).toNat (q + (n + 1))) ((k : Int) + 2).toNat (q + 1) k
    exact addAt_take hl (addAt_take (by omega) (addAt_take (by omega) h))
end
theorem Inv.put_facts {c : Nat → Nat → Int} {m n k s TT : Nat} {ks : List Nat} {wv wv' : Nat → List Nat} {q : Nat} (I' : Inv c m n k (s + 1) (ks ++ [q]) wv') (hl : (wv' k).length ≤ (wv k).length + 1) (hge : (wv k).length ≤ (wv' k).length) (hs : (wv k)[s]? = some q) (hT : (m + 1) * (n + 1) = TT) :
    s + 1 ≤ (wv' k).length ∧ 2 * (TT - (ks ++ [q]).length) + (wv' k).length - (s + 1) < 2 * (TT - ks.length) + (wv k).length - s := by
  have h1 := take_ok hs
  have h2 := I'.count
  rw [hT] at h2
  simp only [List.length_append, List.length_cons, List.length_nil] at h2 ⊢
  omega
/-- what the measure asks -/
theorem addAt_two (wv : Nat → List Nat) (k q : Nat) : (addAt wv ((k : Int) + 2).toNat q k).length = (wv k).length := addAt_len_ne wv (by omega)
end Mine

-- Waves
theorem Mine.freshWaves : True := by
  w_top off
  trivial
namespace Mine
/-- a wave: where it lies, its items, its squares -/
structure WV where
  a : Addr
  vs : List Value
  n : Nat
  l : List Nat
def refs (ws : List WV) : List Value := ws.map fun x => .ref x.a
def wled (ws : List WV) : List (Addr × Obj) := ws.map fun x => (x.a, W.listOf x.vs.toArray x.n)
def wfn (ws : List WV) (t : Nat) : List Nat := ((ws[t]?).map WV.l).getD []
/-- the ledger of the reckoning by waves -/
def pled (P : Addr) (od : Obj) (V : Addr) (nV : Nat) (ws : List WV) : List (Addr × Obj) := (P, od) :: (V, W.listOf (refs ws).toArray nV) :: wled ws
structure WOk (P V : Addr) (Z : Nat) (ws : List WV) : Prop where
  pv : P ≠ V
  p : ∀ x ∈ ws, x.a ≠ P
  v : ∀ x ∈ ws, x.a ≠ V
  nd : (ws.map WV.a).Nodup
  nums : ∀ x ∈ ws, IntsAre x.vs (x.l.map fun q : Nat => (q : Int))
  sz : ∀ x ∈ ws, x.l.length ≤ Z
theorem news_change {h₀ h h' : Heap} {L D : Addr} {o' : Obj} {news news' : List (Addr × Obj)} (N : News h₀ L h news) (hs : Heap.SameBut D h h') (ho : h'.get? D = some o') (hL : D ≠ L) (h0 : h₀.get? D = none)
    (hn : ∀ q ∈ news', q = (D, o') ∨ (q.1 ≠ D ∧ q ∈ news)) : News h₀ L h' news' := by
  intro q hq
  rcases hn q hq with rfl | ⟨h1, h2⟩
  · exact ⟨ho, hL, h0⟩
  · exact ⟨(hs.2 _ h1).trans (N q h2).1, (N q h2).2⟩
theorem wled_mem {ws : List WV} {k : Nat} {x : WV} (h : ws[k]? = some x) : (x.a, W.listOf x.vs.toArray x.n) ∈ wled ws := List.mem_map.mpr ⟨x, List.mem_of_getElem? h, rfl⟩
theorem nodup_get {ws : List WV} (h : (ws.map WV.a).Nodup) {i k : Nat} {x y : WV} (hi : ws[i]? = some x) (hk : ws[k]? = some y) (e : x.a = y.a) : i = k := by
  have h1 : i < ws.length := (List.getElem?_eq_some_iff.mp hi).1
  have h2 : k < ws.length := (List.getElem?_eq_some_iff.mp hk).1
  have e1 : (ws.map WV.a)[i]? = some x.a := by simp [hi]
  have e2 : (ws.map WV.a)[k]? = some x.a := by simp [hk, e]
  exact (List.getElem?_inj (by simpa using h1) h).mp (e1.trans e2.symm)
theorem wled_set {ws : List WV} {k : Nat} {x y : WV} (hk : ws[k]? = some x) (ha : y.a = x.a) (hnd : (ws.map WV.a).Nodup) : ∀ q ∈ wled (ws.set k y), q = (y.a, W.listOf y.vs.toArray y.n) ∨ (q.1 ≠ y.a ∧ q ∈ wled ws) := by
  intro q hq
  obtain ⟨z, hz, rfl⟩ := List.mem_map.mp hq
  obtain ⟨i, hi⟩ := List.getElem?_of_mem hz
  rw [List.getElem?_set] at hi
  by_cases e : k = i
  · subst e
    rw [if_pos rfl] at hi
    split at hi
    · cases hi; exact .inl rfl
    · cases hi
  · rw [if_neg e] at hi
    refine .inr ⟨fun h => e (nodup_get hnd hk hi (by rw [← ha]; exact h.symm)), List.mem_map.mpr ⟨z, List.mem_of_getElem? hi, rfl⟩⟩
theorem refs_set {ws : List WV} {k : Nat} {x y : WV} (hk : ws[k]? = some x) (ha : y.a = x.a) : refs (ws.set k y) = refs ws := by
  unfold refs
  apply List.ext_getElem?
  intro i
  rw [List.getElem?_map, List.getElem?_map, List.getElem?_set]
  by_cases e : k = i
  · subst e
    rw [if_pos rfl, hk]
    have := (List.getElem?_eq_some_iff.mp hk).1
    rw [if_pos this]
    simp [ha]
  · rw [if_neg e]
theorem addr_set {ws : List WV} {k : Nat} {x y : WV} (hk : ws[k]? = some x) (ha : y.a = x.a) : (ws.set k y).map WV.a = ws.map WV.a := by
  apply List.ext_getElem?
  intro i
  rw [List.getElem?_map, List.getElem?_map, List.getElem?_set]
  by_cases e : k = i
  · subst e
    rw [if_pos rfl, hk]
    have := (List.getElem?_eq_some_iff.mp hk).1
    rw [if_pos this]
    simp [ha]
  · rw [if_neg e]
theorem mem_set {ws : List WV} {k : Nat} {y z : WV} (h : z ∈ ws.set k y) : z ∈ ws ∨ z = y := by
  rcases List.mem_or_eq_of_mem_set h with h | h
  · exact .inl h
  · exact .inr h
theorem WOk.mono {P V : Addr} {Z Z' : Nat} {ws : List WV} (O : WOk P V Z ws) (h : Z ≤ Z') : WOk P V Z' ws := ⟨O.pv, O.p, O.v, O.nd, O.nums, fun x hx => Nat.le_trans (O.sz x hx) h⟩
theorem WOk.set {P V : Addr} {Z : Nat} {ws : List WV} (O : WOk P V Z ws) {k : Nat} {x y : WV} (hk : ws[k]? = some x) (ha : y.a = x.a) (hi : IntsAre y.vs (y.l.map fun q : Nat => (q : Int))) (hz : y.l.length ≤ x.l.length + 1) : WOk P V (Z + 1) (ws.set k y) := by
  have hx := List.mem_of_getElem? hk
  refine ⟨O.pv, fun z hz => ?_, fun z hz => ?_, by rw [addr_set hk ha]; exact O.nd, fun z hz => ?_, fun z hz => ?_⟩
  · rcases mem_set hz with h | rfl
    · exact O.p z h
    · rw [ha]; exact O.p x hx
  · rcases mem_set hz with h | rfl
    · exact O.v z h
    · rw [ha]; exact O.v x hx
  · rcases mem_set hz with h | rfl
    · exact O.nums z h
    · exact hi
  · rcases mem_set hz with h | rfl
    · exact Nat.le_succ_of_le (O.sz z h)
    · have := O.sz x hx; omega
theorem wfn_set {ws : List WV} {k q : Nat} {x : WV} (hk : ws[k]? = some x) (y : WV) (hl : y.l = x.l ++ [q]) : wfn (ws.set k y) = addAt (wfn ws) k q := by
  funext t
  unfold wfn addAt
  rw [List.getElem?_set]
  by_cases e : k = t
  · subst e
    have := (List.getElem?_eq_some_iff.mp hk).1
    rw [if_pos rfl, if_pos this, if_pos rfl]
    simp [hl, hk]
  · rw [if_neg e, if_neg fun h => e h.symm]
theorem wfn_get {ws : List WV} {k : Nat} {x : WV} (hk : ws[k]? = some x) : wfn ws k = x.l := by unfold wfn; rw [hk]; rfl
theorem wfn_snoc (ws : List WV) (y : WV) (hl : y.l = []) : wfn (ws ++ [y]) = wfn ws := by
  funext t
  unfold wfn
  by_cases e : t < ws.length
  · rw [List.getElem?_append_left e]
  · rw [List.getElem?_append_right (by omega), List.getElem?_eq_none (show ws.length ≤ t by omega)]
    cases h : t - ws.length with
    | zero => simp [hl]
    | succ i => simp
theorem wfn_start (x y z : WV) (hx : x.l = [0]) (hy : y.l = []) (hz : z.l = []) : wfn [x, y, z] = fun t => if t = 0 then [0] else [] := by
  funext t
  match t with
  | 0 => simp [wfn, hx]
  | 1 => simp [wfn, hy]
  | 2 => simp [wfn, hz]
  | t + 3 => simp [wfn]
section
variable {prog : Program} {w : World} {A : Around} {E : Value → Shared → Prop} {s : Shared} {value slice : Expr} {h₀ : Heap} {L P V : Addr} {m : Str → Option Value} {news : List (Addr × Obj)} {od : Obj} {nV k Z : Nat} {ws : List WV} {x : WV}
theorem pled_isList (N : News h₀ L s.heap news) (hsub : ∀ q ∈ pled P od V nV ws, q ∈ news) : s.heap.IsList V (refs ws).toArray := News.isList N (hsub _ (.tail _ (.head _)))
theorem pled_wave (N : News h₀ L s.heap news) (hsub : ∀ q ∈ pled P od V nV ws, q ∈ news) (hk : ws[k]? = some x) : s.heap.IsList x.a x.vs.toArray := News.isList N (hsub _ (.tail _ (.tail _ (wled_mem hk))))
theorem wave_get {i : Int} {u : Tok} {Q : Value → Shared → Prop} (N : News h₀ L s.heap news) (hsub : ∀ q ∈ pled P od V nV ws, q ∈ news) (hi : i = (k : Int)) (hk : k < ws.length) (hz : ws.length ≤ 1000) (h : ∀ x, ws[k]? = some x → Q (.ref x.a) s)
    (hs : subscripted slice false (.ref V) (.int i u) = operate [.ref V, .int i u] (getItem (.ref V) (.int i u)) := by with_unfolding_all rfl) :
    wpAny (model prog w) A (subscriptTail value slice (.ref V) (.int i u)) Q E s := by
  have hl := pled_isList N hsub
  have hx : ws[k]? = some ws[k] := by simp [hk]
  refine tail_any hl.typeIs slot_list_getitem.lookup (wpAny_getItem_list hl (by omega) (by omega) ?_ (h ws[k] hx)) hs
  subst hi
  rw [Int.toNat_natCast]
  simp [refs, hk]
theorem wave_len {Q : Value → Shared → Prop} (N : News h₀ L s.heap news) (hsub : ∀ q ∈ pled P od V nV ws, q ∈ news) (O : WOk P V Z ws) (hk : ws[k]? = some x) (hZ : Z ≤ 9000) (h : ∀ t k, Q (.int (x.l.length : Int) t) { s with toks := k }) :
    wpAny (model prog w) A (call (.builtin "len") [.ref x.a]) Q E s := by
  have hi := O.nums x (List.mem_of_getElem? hk)
  have hz := O.sz x (List.mem_of_getElem? hk)
  have := len_ints_fit (prog := prog) (w := w) (A := A) (E := E) (Q := Q) (s := s) (pled_wave N hsub hk) hi (by simp; omega)
  rw [List.length_map] at this
  exact this (h _ _)
theorem wave_item {u : Tok} {i q : Nat} {Q : Value → Shared → Prop} (N : News h₀ L s.heap news) (hsub : ∀ q ∈ pled P od V nV ws, q ∈ news) (O : WOk P V Z ws) (hk : ws[k]? = some x) (hq : x.l[i]? = some q) (hZ : Z ≤ 9000) (h : ∀ t, Q (.int (q : Int) t) s)
    (hs : subscripted slice false (.ref x.a) (.int (i : Int) u) = operate [.ref x.a, .int (i : Int) u] (getItem (.ref x.a) (.int (i : Int) u)) := by with_unfolding_all rfl) :
    wpAny (model prog w) A (subscriptTail value slice (.ref x.a) (.int (i : Int) u)) Q E s := by
  have hl := pled_wave N hsub hk
  have hi := O.nums x (List.mem_of_getElem? hk)
  have hz := O.sz x (List.mem_of_getElem? hk)
  have hlt := (List.getElem?_eq_some_iff.mp hq).1
  obtain ⟨t, ht⟩ := hi.get i (q : Int) (by simp [hq])
  refine tail_any hl.typeIs slot_list_getitem.lookup (wpAny_getItem_list hl (by omega) (by omega) ?_ (h t)) hs
  rw [Int.toNat_natCast]
  simpa using ht
theorem wave_meth {pl : Sem Bool} {Q : Value × List Value → Shared → Prop} (N : News h₀ L s.heap news) (hsub : ∀ q ∈ pled P od V nV ws, q ∈ news) (hk : ws[k]? = some x)
    (h : Q (.builtin "list.append", [.ref x.a]) s) : wpAny (model prog w) A (getMethod (.ref x.a) (Str.ofString "append") pl) Q E s :=
  getMethod_append_N N (hsub _ (.tail _ (.tail _ (wled_mem hk)))) h
theorem wave_append {q : Nat} {z : Int} {t : Tok} {Q : Value → Shared → Prop} (F : Fr h₀ L s.heap m) (N : News h₀ L s.heap news) (hsub : ∀ q ∈ pled P od V nV ws, q ∈ news) (O : WOk P V Z ws) (hk : ws[k]? = some x) (hZ : Z ≤ 9000) (hq : z = (q : Int))
    (h : ∀ h', Fr h₀ L h' m → News h₀ L h' (pled P od V nV (ws.set k ⟨x.a, x.vs ++ [.int z t], x.n + 1, x.l ++ [q]⟩)) → WOk P V (Z + 1) (ws.set k ⟨x.a, x.vs ++ [.int z t], x.n + 1, x.l ++ [q]⟩) → Q .none { s with heap := h' }) :
    wpAny (model prog w) A (call (.builtin "list.append") [.ref x.a, .int z t]) Q E s := by
  have hm := hsub _ (.tail _ (.tail _ (wled_mem hk)))
  have z1 := N _ hm
  have hi := O.nums x (List.mem_of_getElem? hk)
  have hz := O.sz x (List.mem_of_getElem? hk)
  have hlen := hi.length
  rw [List.length_map] at hlen
  have hxm := List.mem_of_getElem? hk
  refine append_at z1.1 (fun h' hs ho => h h' (F.change hs z1.2.1 z1.2.2) (news_change N hs ho z1.2.1 z1.2.2 ?_) ?_) (by rw [List.size_toArray, sizeLine_eq]; omega)
  · intro p hp
    rcases List.mem_cons.mp hp with rfl | hp
    · exact .inr ⟨fun e => O.p x hxm e.symm, hsub _ (.head _)⟩
    rcases List.mem_cons.mp hp with rfl | hp
    · refine .inr ⟨fun e => O.v x hxm e.symm, ?_⟩
      rw [refs_set (y := ⟨x.a, x.vs ++ [Value.int z t], x.n + 1, x.l ++ [q]⟩) hk rfl]
      exact hsub _ (.tail _ (.head _))
    rcases wled_set (y := ⟨x.a, x.vs ++ [Value.int z t], x.n + 1, x.l ++ [q]⟩) hk rfl O.nd p hp with e | ⟨e1, e2⟩
    · refine .inl ?_
      rw [e, show x.vs.toArray.push (Value.int z t) = (x.vs ++ [Value.int z t]).toArray by simp]
    · exact .inr ⟨e1, hsub _ (.tail _ (.tail _ e2))⟩
  · refine O.set (y := ⟨x.a, x.vs ++ [Value.int z t], x.n + 1, x.l ++ [q]⟩) hk rfl ?_ (by simp)
    rw [List.map_append]
    subst hq
    exact hi.append (.cons _ _ .nil)
/-- the waves with an empty one more -/
theorem waves_more {D : Addr} {Q : Value → Shared → Prop} (F : Fr h₀ L s.heap m) (N : News h₀ L s.heap ((D, W.listOf #[] 0) :: pled P od V nV ws)) (hD : ∀ q ∈ pled P od V nV ws, q.1 < D) (O : WOk P V Z ws) (hz : ws.length ≤ 1000)
    (h : ∀ h', Fr h₀ L h' m → News h₀ L h' (pled P od V (nV + 1) (ws ++ [⟨D, [], 0, []⟩])) → WOk P V Z (ws ++ [⟨D, [], 0, []⟩]) → Q .none { s with heap := h' }) :
    wpAny (model prog w) A (call (.builtin "list.append") [.ref V, .ref D]) Q E s := by
  have z1 := N (V, W.listOf (refs ws).toArray nV) (.tail _ (.tail _ (.head _)))
  have hDP : P < D := hD (P, od) (.head _)
  have hDV : V < D := hD (V, _) (.tail _ (.head _))
  have hDx : ∀ x ∈ ws, x.a < D := fun x hx => hD (x.a, W.listOf x.vs.toArray x.n) (.tail _ (.tail _ (List.mem_map.mpr ⟨x, hx, rfl⟩)))
  refine append_at z1.1 (fun h' hs ho => h h' (F.change hs z1.2.1 z1.2.2) (news_change N hs ho z1.2.1 z1.2.2 ?_) ?_) (by simp [refs, sizeLine_eq]; omega)
  · intro p hp
    rcases List.mem_cons.mp hp with rfl | hp
    · exact .inr ⟨O.pv, .tail _ (.head _)⟩
    rcases List.mem_cons.mp hp with rfl | hp
    · refine .inl ?_
      simp [refs]
    · obtain ⟨x, hx, rfl⟩ := List.mem_map.mp hp
      rcases List.mem_append.mp hx with hx | hx
      · exact .inr ⟨O.v x hx, .tail _ (.tail _ (.tail _ (List.mem_map.mpr ⟨x, hx, rfl⟩)))⟩
      · rw [List.mem_singleton.mp hx]
        exact .inr ⟨Nat.ne_of_gt hDV, .head _⟩
  · refine ⟨O.pv, fun x hx => ?_, fun x hx => ?_, ?_, fun x hx => ?_, fun x hx => ?_⟩
    · rcases List.mem_append.mp hx with hx | hx
      · exact O.p x hx
      · rw [List.mem_singleton.mp hx]; exact Nat.ne_of_gt hDP
    · rcases List.mem_append.mp hx with hx | hx
      · exact O.v x hx
      · rw [List.mem_singleton.mp hx]; exact Nat.ne_of_gt hDV
    · rw [List.map_append, List.nodup_append]
      refine ⟨O.nd, by simp, fun a ha b hb => ?_⟩
      obtain ⟨x, hx, rfl⟩ := List.mem_map.mp ha
      simp at hb
      rw [hb]
      exact Nat.ne_of_lt (hDx x hx)
    · rcases List.mem_append.mp hx with hx | hx
      · exact O.nums x hx
      · rw [List.mem_singleton.mp hx]; exact .nil
    · rcases List.mem_append.mp hx with hx | hx
      · exact O.sz x hx
      · rw [List.mem_singleton.mp hx]; exact Nat.zero_le _
theorem wave_lenF {Q : Value → Shared → Prop} (N : News h₀ L s.heap news) (hsub : ∀ q ∈ pled P od V nV ws, q ∈ news) (O : WOk P V Z ws) (hk : ws[k]? = some x) (hZ : Z ≤ 9000) (h : ∀ t j, Q (.int ((wfn ws k).length : Int) t) { s with toks := j }) :
    wpAny (model prog w) A (call (.builtin "len") [.ref x.a]) Q E s := wave_len N hsub O hk hZ (by rw [← wfn_get hk]; exact h)
theorem wave_itemF {u : Tok} {i : Nat} {Q : Value → Shared → Prop} (N : News h₀ L s.heap news) (hsub : ∀ q ∈ pled P od V nV ws, q ∈ news) (O : WOk P V Z ws) (hk : ws[k]? = some x) (hi : i < (wfn ws k).length) (hZ : Z ≤ 9000) (h : ∀ (q : Nat) t, (wfn ws k)[i]? = some q → Q (.int (q : Int) t) s)
    (hs : subscripted slice false (.ref x.a) (.int (i : Int) u) = operate [.ref x.a, .int (i : Int) u] (getItem (.ref x.a) (.int (i : Int) u)) := by with_unfolding_all rfl) :
    wpAny (model prog w) A (subscriptTail value slice (.ref x.a) (.int (i : Int) u)) Q E s := by
  have e := wfn_get hk
  have hq : (wfn ws k)[i]? = some (wfn ws k)[i] := by simp [hi]
  refine wave_item N hsub O hk (q := (wfn ws k)[i]) ?_ hZ (fun t => h _ t hq) hs
  rw [← e]
  exact hq
theorem wave_getZ {i : Int} {u : Tok} {Q : Value → Shared → Prop} (N : News h₀ L s.heap news) (hsub : ∀ q ∈ pled P od V nV ws, q ∈ news) (h0 : 0 ≤ i) (hk : i.toNat < ws.length) (hz : ws.length ≤ 1000) (h : ∀ x, ws[i.toNat]? = some x → Q (.ref x.a) s)
    (hs : subscripted slice false (.ref V) (.int i u) = operate [.ref V, .int i u] (getItem (.ref V) (.int i u)) := by with_unfolding_all rfl) :
    wpAny (model prog w) A (subscriptTail value slice (.ref V) (.int i u)) Q E s := wave_get N hsub (by omega) hk hz h hs
end
end Mine

-- Dicts
theorem Mine.freshDicts : True := by
  w_top off
  trivial
namespace Mine
/-- the dict of prices -/
structure Priced (c : Nat → Nat → Int) (wd : Nat) (kvs : List (Int × Value)) (ks : List Nat) : Prop where
  len : kvs.length = ks.length
  mem : ∀ q : Nat, (valueAt kvs (q : Int)).isSome = decide (q ∈ ks)
  val : ∀ (q : Nat) v, valueAt kvs (q : Int) = some v → ∃ t, v = .int (Dq c wd q) t
theorem valueAt_snoc (kvs : List (Int × Value)) (k x : Int) (v : Value) (h : valueAt kvs k = none) : valueAt (kvs ++ [(k, v)]) x = if x = k then some v else valueAt kvs x := by
  unfold valueAt at h ⊢
  rw [List.find?_append]
  by_cases e : x = k
  · subst e
    rw [if_pos rfl]
    have h' : kvs.find? (fun kv => decide (kv.1 = x)) = none := by simpa using h
    rw [h']
    simp
  · rw [if_neg e]
    have : List.find? (fun kv : Int × Value => decide (kv.1 = x)) [(k, v)] = none := by
      simp
      exact fun h => e h.symm
    rw [this, Option.or_none]
theorem stored_new (kvs : List (Int × Value)) (k : Int) (v : Value) (h : valueAt kvs k = none) : stored kvs k v = kvs ++ [(k, v)] := by
  unfold stored
  rw [if_neg]
  intro ha
  obtain ⟨y, hy, e⟩ := List.any_eq_true.mp ha
  unfold valueAt at h
  have h' : kvs.find? (fun kv => decide (kv.1 = k)) = none := by simpa using h
  exact absurd e (by simpa using List.find?_eq_none.mp h' y hy)
theorem Priced.notin {c : Nat → Nat → Int} {wd : Nat} {kvs : List (Int × Value)} {ks : List Nat} (R : Priced c wd kvs ks) {q : Nat} (h : (valueAt kvs (q : Int)).isSome = false) : q ∉ ks := by
  rw [R.mem] at h; simpa using h
theorem Priced.isin {c : Nat → Nat → Int} {wd : Nat} {kvs : List (Int × Value)} {ks : List Nat} (R : Priced c wd kvs ks) {q : Nat} (h : (valueAt kvs (q : Int)).isSome = true) : q ∈ ks := by
  rw [R.mem] at h; simpa using h
theorem Priced.put {c : Nat → Nat → Int} {wd : Nat} {kvs : List (Int × Value)} {ks : List Nat} (R : Priced c wd kvs ks) {q : Nat} (hq : q ∉ ks) {z : Int} {t : Tok} (hz : z = Dq c wd q) : Priced c wd (stored kvs (q : Int) (.int z t)) (ks ++ [q]) := by
  have hn : valueAt kvs (q : Int) = none := by
    have := R.mem q
    rw [decide_eq_false hq] at this
    simpa using this
  rw [stored_new _ _ _ hn]
  refine ⟨by simp [R.len], fun x => ?_, fun x v hv => ?_⟩
  · rw [valueAt_snoc _ _ _ _ hn]
    by_cases e : (x : Int) = (q : Int)
    · rw [if_pos e]
      have : x = q := by omega
      subst this
      simp
    · rw [if_neg e, R.mem x]
      congr 1
      have : x ≠ q := fun h => e (by rw [h])
      simp [this]
  · rw [valueAt_snoc _ _ _ _ hn] at hv
    by_cases e : (x : Int) = (q : Int)
    · rw [if_pos e] at hv
      have : x = q := by omega
      subst this
      cases hv
      exact ⟨t, by rw [hz]⟩
    · rw [if_neg e] at hv
      exact R.val x v hv
section
variable {prog : Program} {w : World} {A : Around} {E : Value → Shared → Prop} {s : Shared} {value slice : Expr} {h₀ : Heap} {L P V : Addr} {m : Str → Option Value} {news : List (Addr × Obj)} {od : Obj} {nV k Z : Nat} {ws : List WV} {kvs : List (Int × Value)}
theorem dict_at (N : News h₀ L s.heap news) (hm : (P, od) ∈ news) (ho : od.IsDictOf (intKind prog w) kvs) : s.heap.DictOf (intKind prog w) P kvs := Heap.dictOf_iff.mpr ⟨od, (N _ hm).1, ho⟩
theorem dict_notIn {i : Int} {t : Tok} {Q : Value → Shared → Prop} (N : News h₀ L s.heap news) (hm : (P, od) ∈ news) (ho : od.IsDictOf (intKind prog w) kvs) (hP : (P == sysModules) = false) (h : Q (.bool (!(valueAt kvs i).isSome)) { s with toks := s.toks + 1 }) :
    wpAny (model prog w) A (compareOp .NotIn (.int i t) (.ref P)) Q E s :=
  wpAny_notIn_of (knd := intKind prog w) (intKind_is prog w i t) hP (dict_at N hm ho).mapOf h
theorem dict_len {Q : Value → Shared → Prop} (N : News h₀ L s.heap news) (hm : (P, od) ∈ news) (ho : od.IsDictOf (intKind prog w) kvs) (hP : (P == sysModules) = false) (hz : kvs.length ≤ 100000) (h : ∀ t k, Q (.int (kvs.length : Int) t) { s with toks := k }) :
    wpAny (model prog w) A (call (.builtin "len") [.ref P]) Q E s :=
  call_len_dict (knd := intKind prog w) hP (dict_at N hm ho) (by omega) (h _ _)
theorem dict_put {i : Int} {t : Tok} {v : Value} {Q : Unit → Shared → Prop} (F : Fr h₀ L s.heap m) (N : News h₀ L s.heap news) (hsub : ∀ q ∈ pled P od V nV ws, q ∈ news) (O : WOk P V Z ws) (ho : od.IsDictOf (intKind prog w) kvs) (hz : kvs.length ≤ 100000)
    (h : ∀ od' h' tk, Fr h₀ L h' m → News h₀ L h' (pled P od' V nV ws) → od'.IsDictOf (intKind prog w) (stored kvs i v) → Q () { s with heap := h', toks := tk }) :
    wpAny (model prog w) A (setItem (.ref P) (.int i t) v) Q E s := by
  have hm := hsub _ (.head _)
  have z1 := N _ hm
  refine wpAny_setItem_pairs (knd := intKind prog w) (intKind_is prog w i t) (dict_at N hm ho) (fun h' hd hs => ?_) (by rw [sizeLine_eq]; omega)
  obtain ⟨od', ho', hod'⟩ := Heap.dictOf_iff.mp hd
  refine h od' h' _ (F.change hs z1.2.1 z1.2.2) (news_change N hs ho' z1.2.1 z1.2.2 ?_) hod'
  intro p hp
  rcases List.mem_cons.mp hp with rfl | hp
  · exact .inl rfl
  rcases List.mem_cons.mp hp with rfl | hp
  · exact .inr ⟨fun e => O.pv e.symm, hsub _ (.tail _ (.head _))⟩
  · obtain ⟨x, hx, rfl⟩ := List.mem_map.mp hp
    exact .inr ⟨O.p x hx, hsub _ (.tail _ (.tail _ hp))⟩
theorem waves_start {h : Heap} {w0 w1 w2 : Addr} {t : Tok} (N : News h₀ L h [(V, W.listOf [Value.ref w0, .ref w1, .ref w2].toArray 0), (w2, W.listOf [].toArray 0), (w1, W.listOf [].toArray 0), (w0, W.listOf [Value.int 0 t].toArray 0), (P, od)])
    (l0 : P < w0) (l1 : w0 < w1 ∧ P < w1) (l2 : w1 < w2 ∧ w0 < w2 ∧ P < w2) (l3 : w2 < V ∧ w1 < V ∧ w0 < V ∧ P < V) :
    News h₀ L h (pled P od V 0 [⟨w0, [.int 0 t], 0, [0]⟩, ⟨w1, [], 0, []⟩, ⟨w2, [], 0, []⟩]) ∧ WOk P V 1 [⟨w0, [.int 0 t], 0, [0]⟩, ⟨w1, [], 0, []⟩, ⟨w2, [], 0, []⟩] := by
  have l0' : @LT.lt Nat _ P w0 := l0
  have l1' : @LT.lt Nat _ w0 w1 ∧ @LT.lt Nat _ P w1 := l1
  have l2' : @LT.lt Nat _ w1 w2 ∧ @LT.lt Nat _ w0 w2 ∧ @LT.lt Nat _ P w2 := l2
  have l3' : @LT.lt Nat _ w2 V ∧ @LT.lt Nat _ w1 V ∧ @LT.lt Nat _ w0 V ∧ @LT.lt Nat _ P V := l3
  refine ⟨fun q hq => N q ?_, ⟨Nat.ne_of_lt l3'.2.2.2, ?_, ?_, ?_, ?_, ?_⟩⟩
  · simp only [pled, refs, wled, List.map_cons, List.map_nil, List.mem_cons, List.not_mem_nil, or_false] at hq ⊢
    rcases hq with h | h | h | h | h <;> simp [h]
  · refine List.forall_mem_cons.mpr ⟨Nat.ne_of_gt l0', List.forall_mem_cons.mpr ⟨Nat.ne_of_gt l1'.2, List.forall_mem_cons.mpr ⟨Nat.ne_of_gt l2'.2.2, List.forall_mem_nil _⟩⟩⟩
  · refine List.forall_mem_cons.mpr ⟨Nat.ne_of_lt l3'.2.2.1, List.forall_mem_cons.mpr ⟨Nat.ne_of_lt l3'.2.1, List.forall_mem_cons.mpr ⟨Nat.ne_of_lt l3'.1, List.forall_mem_nil _⟩⟩⟩
  · simp only [List.map_cons, List.map_nil]
    refine List.nodup_cons.mpr ⟨?_, List.nodup_cons.mpr ⟨?_, by simp⟩⟩
    · intro h
      rcases List.mem_cons.mp h with h | h
      · exact absurd h (Nat.ne_of_lt l1'.1)
      · exact absurd (List.mem_singleton.mp h) (Nat.ne_of_lt l2'.2.1)
    · intro h
      exact absurd (List.mem_singleton.mp h) (Nat.ne_of_lt l2'.1)
  · refine List.forall_mem_cons.mpr ⟨.cons _ _ .nil, List.forall_mem_cons.mpr ⟨.nil, List.forall_mem_cons.mpr ⟨.nil, List.forall_mem_nil _⟩⟩⟩
  · refine List.forall_mem_cons.mpr ⟨by simp, List.forall_mem_cons.mpr ⟨by simp, List.forall_mem_cons.mpr ⟨by simp, List.forall_mem_nil _⟩⟩⟩
theorem divmod_sq {q n : Nat} {i : Int} {t u : Tok} {Q : Value → Shared → Prop} (F : Fr h₀ L s.heap m) (N : News h₀ L s.heap news) (hi : i = (n : Int) + 1) (hn : n < 100000)
    (h : ∀ D t1 t2 h' tk, Fr h₀ L h' m → News h₀ L h' ((D, { cls := .type "tuple", data := .seq #[.int ((q / (n + 1) : Nat) : Int) t1, .int ((q % (n + 1) : Nat) : Int) t2] }) :: news) → Q (.ref D) { s with heap := h', toks := tk }) :
    wpAny (model prog w) A (call (.builtin "divmod") [.int (q : Int) t, .int i u]) Q E s := by
  have e1 : Int.fdiv (q : Int) i = ((q / (n + 1) : Nat) : Int) := by
    subst hi
    rw [Int.fdiv_eq_ediv_of_nonneg _ (by omega)]
    exact (Int.natCast_ediv q (n + 1)).symm
  have e2 : Int.fmod (q : Int) i = ((q % (n + 1) : Nat) : Int) := by
    subst hi
    rw [Int.fmod_eq_emod_of_nonneg _ (by omega)]
    exact (Int.natCast_emod q (n + 1)).symm
  refine divmod_N F N (by omega) (fun h' F' N' => ?_) (Or.inl (PyProof.noPylong_small (by omega)))
  rw [e1, e2] at N'
  exact h _ _ _ h' _ F' N'
theorem item_base {H : Heap} {l : Addr} {vs : List Value} {ns : List Int} {i : Nat} {u : Tok} {Q : Value → Shared → Prop} (F : Fr H L s.heap m) (hl : H.IsList l vs.toArray) (hi : IntsAre vs ns) (hk : i < ns.length) (hz : ns.length ≤ 1000) (h : ∀ t, Q (.int (ns.getD i 0) t) s)
    (hs : subscripted slice false (.ref l) (.int (i : Int) u) = operate [.ref l, .int (i : Int) u] (getItem (.ref l) (.int (i : Int) u)) := by with_unfolding_all rfl) :
    wpAny (model prog w) A (subscriptTail value slice (.ref l) (.int (i : Int) u)) Q E s := by
  have hL : s.heap.IsList l vs.toArray := stays_list F.keep hl
  obtain ⟨t, ht⟩ := hi.get i (ns.getD i 0) (by simp [hk])
  refine tail_any hL.typeIs slot_list_getitem.lookup (wpAny_getItem_list hL (by omega) (by omega) ?_ (h t)) hs
  rw [Int.toNat_natCast]
  simpa using ht
theorem change_of {p : Program} {loose : List Str} {mean : ExcName → Option Value} {mg mb : Str → Option Value} (x y : Int) (tx ty : Tok) (H : Heap) : Spec prog w p loose mean mg mb 56 [.int x tx, .int y ty] H (fun v new => (∃ z t, v = .int z t ∧ z = chg x y ∧ 0 ≤ z ∧ z ≤ 2) ∧ new = []) 1 :=
  (change_call x y tx ty H).weaken fun v n h => ⟨let ⟨t, e⟩ := h.1; ⟨_, t, e, rfl, chg_nonneg x y, chg_le x y⟩, h.2⟩
end
end Mine

-- Wprices
theorem Mine.freshWprices : True := by
  w_top off
  trivial
namespace Mine
structure POut where
  od : Obj
  nV : Nat
  ws : List WV
  kvs : List (Int × Value)
  ks : List Nat
  k : Nat
  tk : Tok
structure PIn where
  od : Obj
  nV : Nat
  ws : List WV
  kvs : List (Int × Value)
  ks : List Nat
  sp : Nat
  ts : Tok
section
variable {prog : Program} {w : World} {p : Program} {loose : List Str} {mean : ExcName → Option Value} {mg mb : Str → Option Value}
local macro_rules | `(tactic| walk_at "exec While Compare cons nil") => `(tactic| (refine Hold.out ?_))
local macro_rules | `(tactic| walk_at "KswEnd") => `(tactic| (refine Hold.out ?_))
local macro_rules | `(tactic| walk_at "same2") => `(tactic| (intro z h2 h3; (try simp only [List.forall_mem_cons, List.not_mem_nil, false_implies, implies_true, and_true, ne_eq] at h2); (try simp only [List.contains_cons, List.contains_nil, Bool.or_false, Bool.or_eq_false_iff, beq_eq_false_iff_ne, ne_eq] at h3); (first | rfl | (simp [kstB, h2, h3]; done) | (simp [kstB, h3]; done) | (simp [kstB, h2]; done))))
local macro_rules | `(tactic| walk_at "sub") => `(tactic| (first | exact fun _ h => h | exact fun _ h => List.Mem.tail _ h | exact fun _ h => List.Mem.tail _ (List.Mem.tail _ h)))
local macro_rules | `(tactic| walk_at "call builtin:len") => `(tactic| ((with_reducible show wpAny _ _ (PySem.call (Value.builtin _) [Value.ref _]) _ _ _); k_dflt (refine' dict_len ?k1 ?k2 ?k3 ?k4 ?k5 ?_; (case k1 => k_asm); (case k2 => exact List.Mem.head _); (case k3 => assumption); (case k4 => assumption); (case k5 => omega); k_whole); intro t' tk'))
local macro_rules | `(tactic| walk_at "call builtin:list.append") => `(tactic| ((with_reducible show wpAny _ _ (PySem.call (Value.builtin _) [Value.ref _, Value.ref _]) _ _ _); k_dflt (refine' waves_more ?k1 ?k2 ?k3 ?k4 ?k5 ?_; (case k1 => k_asm); (case k2 => k_asm); (case k3 => assumption); (case k4 => assumption); (case k5 => omega); k_whole); intro h' F' N' O'; (try k_sweep)))
local macro_rules | `(tactic| walk_at "call builtin:list.append") => `(tactic| ((with_reducible show wpAny _ _ (PySem.call (Value.builtin _) [Value.ref (WV.a _), Value.int _ _]) _ _ _); k_dflt (refine' wave_append ?k1 ?k2 ?k3 ?k4 ?k5 ?k6 ?k7 ?_; (case k1 => k_asm); (case k2 => k_asm); (case k3 => walk_at "sub"); (case k4 => assumption); (case k5 => assumption); (case k6 => omega); (case k7 => exact rfl); k_whole); intro h' F' N' O'; (try k_sweep)))
local macro_rules | `(tactic| walk_at "getMethod ref") => `(tactic| ((with_reducible show wpAny _ _ (getMethod (Value.ref (WV.a _)) _ _) _ _ _); k_dflt (refine' wave_meth ?k2 ?k3 ?k5 ?_; (case k2 => k_asm); (case k3 => walk_at "sub"); (case k5 => assumption); k_whole)))
local macro_rules | `(tactic| walk_at "call builtin:len") => `(tactic| ((with_reducible show wpAny _ _ (PySem.call (Value.builtin _) [Value.ref (WV.a _)]) _ _ _); k_dflt (refine' wave_lenF ?k2 ?k3 ?k4 ?k5 ?k6 ?_; (case k2 => k_asm); (case k3 => walk_at "sub"); (case k4 => assumption); (case k5 => assumption); (case k6 => omega); k_whole); intro t' tk'))
local macro_rules | `(tactic| walk_at "compareOp NotIn") => `(tactic| ((with_reducible show wpAny _ _ (compareOp CmpOp.NotIn (Value.int _ _) (Value.ref _)) _ _ _); k_dflt (refine' dict_notIn ?k1 ?k2 ?k3 ?k4 ?_; (case k1 => k_asm); (case k2 => exact List.Mem.head _); (case k3 => assumption); (case k4 => assumption); k_whole)))
local macro_rules | `(tactic| walk_at "setItem ref int") => `(tactic| ((with_reducible show wpAny _ _ (PySem.setItem (Value.ref _) (Value.int _ _) _) _ _ _); k_dflt (refine' dict_put ?k1 ?k2 ?k3 ?k4 ?k5 ?k6 ?_; (case k1 => k_asm); (case k2 => k_asm); (case k3 => walk_at "sub"); (case k4 => assumption); (case k5 => assumption); (case k6 => omega); k_whole); intro od' h' tk' F' N' hod'; (try k_sweep)))
local macro_rules | `(tactic| walk_at "subscriptTail Name Name ref int") => `(tactic| ((with_reducible show wpAny _ _ (subscriptTail _ _ (Value.ref _) (Value.int _ _)) _ _ _); k_dflt (refine' wave_getZ ?k2 ?k3 ?k4 ?k5 ?k6 ?_; (case k2 => k_asm); (case k3 => walk_at "sub"); (case k4 => omega); (case k5 => ((try simp only [List.length_set]); omega)); (case k6 => ((try simp only [List.length_set]); omega)); k_whole); intro x' hx'; (try simp only [Int.toNat_natCast] at hx')))
local macro_rules | `(tactic| walk_at "subscriptTail Name BinOp ref int") => `(tactic| ((with_reducible show wpAny _ _ (subscriptTail _ _ (Value.ref _) (Value.int _ _)) _ _ _); k_dflt (refine' wave_getZ ?k2 ?k3 ?k4 ?k5 ?k6 ?_; (case k2 => k_asm); (case k3 => walk_at "sub"); (case k4 => omega); (case k5 => ((try simp only [List.length_set]); omega)); (case k6 => ((try simp only [List.length_set]); omega)); k_whole); intro x' hx'; (try simp only [Int.toNat_natCast] at hx')))
local macro_rules | `(tactic| walk_at "subscriptTail") => `(tactic| ((with_reducible show wpAny _ _ (subscriptTail (Expr.Subscript _ _ _) _ (Value.ref (WV.a _)) (Value.int (Nat.cast _) _)) _ _ _); k_dflt (refine' wave_itemF ?k2 ?k3 ?k4 ?k5 ?k6 ?k7 ?_; (case k2 => k_asm); (case k3 => walk_at "sub"); (case k4 => assumption); (case k5 => assumption); (case k6 => omega); (case k7 => omega); k_whole); intro q' t' hq'))
local macro_rules | `(tactic| walk_at "call builtin:divmod") => `(tactic| (k_dflt (refine' divmod_sq ?k1 ?k2 ?k3 ?k5 ?_; (case k1 => k_asm); (case k2 => k_asm); (case k3 => exact rfl); (case k5 => omega); k_whole); intro D' t1' t2' h' tk' F' N'; (try k_sweep)))
local macro_rules | `(tactic| walk_at "subscriptTail Name Name ref int") => `(tactic| ((with_reducible show wpAny _ _ (subscriptTail _ _ (Value.ref _) (Value.int (Nat.cast _) _)) _ _ _); k_dflt (refine' item_base ?k1 ?k2 ?k3 ?k4 ?k5 ?_; (case k1 => k_asm); (case k2 => assumption); (case k3 => assumption); (case k4 => omega); (case k5 => omega); k_whole); intro t'))
local macro_rules | `(tactic| walk_at "call ref") => `(tactic| ((with_reducible show wpAny _ _ (PySem.call (Value.ref 56) [Value.int _ _, Value.int _ _]) _ _ _); (refine' Spec.use (change_of _ _ _ _ _) ?kB ?kF ?kX ?kN ?kT ?kk ?kd ?ku ?_; (case kB => k_asm); (case kF => k_asm); (case kX => k_asm); (case kN => k_asm); (case kT => k_asm); (case kk => exact rfl); (case kd => omega); (case ku => omega); k_whole); intro v h' tk' new F' N' hR; (obtain ⟨⟨z9, t9, hv9, hz9, hza9, hzb9⟩, hn9⟩ := hR); (subst hv9); (subst hn9); (try simp only [List.nil_append] at N'); (try k_sweep)))
set_option maxRecDepth 100000 in
set_option maxHeartbeats 8000000 in
theorem prices_call (la lb : Addr) (va vb : List Value) (a b : List Int) (H : Heap) (hla : H.IsList la va.toArray) (hlb : H.IsList lb vb.toArray) (hia : IntsAre va a) (hib : IntsAre vb b) (hza : a.length ≤ 200) (hzb : b.length ≤ 40) :
    Spec prog w p loose mean mg mb 63 [.ref la, .ref lb] H (fun v new => ∃ P od kvs, v = .ref P ∧ new = [(P, od)] ∧ od.IsDictOf (intKind prog w) kvs ∧ (P == sysModules) = false ∧
      (40 < a.length → kvs = []) ∧ (a.length ≤ 40 → ∀ i j, i ≤ a.length → j ≤ b.length → ∃ t, valueAt kvs ((i * (b.length + 1) + j : Nat) : Int) = some (.int (D (cst b a) i j) t))) 3 := by
  refine Spec.enter (f := 63) (by k_is) (by k_is) (fun s => BindsTo.of_eq rfl) (locs rfl) rfl rfl rfl (by decide) (by decide) ?_
  intro dp un gd outer A₀ base L' h₁ s B F N X T hdp hun
  k_fold
  k_steps
  · refine Out.ret (by assumption) (by assumption) (fun q hq => hq) ⟨_, _, [], rfl, rfl, by assumption, by assumption, fun _ => rfl, fun h => absurd h (by omega)⟩
  unfold Hold
  rename_i P _ od hP _ _ hod _ _ _ hm40 _ _ _ w0 _ lt0 w1 _ lt1 w2 _ lt2 V _ lt3 _ _ F9 N9
  have hc0 := cst_nonneg b a
  obtain ⟨N8, O8⟩ := waves_start N9 lt0 lt1 lt2 lt3
  refine while_one (σ := POut) (fun c => pled P c.od V c.nV c.ws) (fun c => [("cost", .int (c.k : Int) c.tk)]) (fun c => c.od.IsDictOf (intKind prog w) c.kvs ∧ WOk P V (1 + 3 * c.ks.length) c.ws) ["spot", "square", "i", "j"]
    (fun c => c.ws.length = c.k + 3 ∧ c.k ≤ 2 * (a.length + b.length) + 1 ∧ Priced (cst b a) (b.length + 1) c.kvs c.ks ∧ Inv (cst b a) a.length b.length c.k 0 c.ks (wfn c.ws)) (fun c => 2 * (a.length + b.length) + 1 - c.k) (fun c => (a.length + 1) * (b.length + 1) ≤ c.ks.length)
    ⟨od, 0, _, [], [], 0, _⟩ F9 N8 ⟨hod, O8⟩ (List.forall_mem_cons.mpr ⟨rfl, List.forall_mem_nil _⟩) ⟨rfl, Nat.zero_le _, ⟨rfl, fun _ => rfl, fun _ _ h => nomatch h⟩, ?_⟩ ?_ ?_
  · rw [wfn_start _ _ _ rfl rfl rfl]
    exact Inv.start _ _ _ hc0
  · rintro ⟨od, nV, ws, kvs, ks, k, tc⟩ u h tk ⟨hod, O⟩ ⟨hlen, hkb, hR, I⟩ F N
    dsimp only at *
    k_fold
    have hkl := I.count
    have hkv := hR.len
    have hT : (a.length + 1) * (b.length + 1) ≤ 41 * 41 := Nat.mul_le_mul (by omega) (by omega)
    have hTi : ((a.length : Int) + 1) * ((b.length : Int) + 1) = (((a.length + 1) * (b.length + 1) : Nat) : Int) := by simp
    generalize hTT : (a.length + 1) * (b.length + 1) = TT at *
    k_steps
    · unfold Hold
      rename_i hlt _ w9 _ hw9 _ O9 _ F9 N9
      rw [hTi] at hlt
      have hmore := I.more (by rw [hTT]; omega)
      refine while_one (σ := PIn) (fun c => pled P c.od V c.nV c.ws) (fun c => [("spot", .int (c.sp : Int) c.ts)]) (fun c => c.od.IsDictOf (intKind prog w) c.kvs ∧ WOk P V (1 + 3 * c.ks.length) c.ws) ["square", "i", "j"]
        (fun c => c.ws.length = k + 4 ∧ Priced (cst b a) (b.length + 1) c.kvs c.ks ∧ Inv (cst b a) a.length b.length k c.sp c.ks (wfn c.ws) ∧ c.sp ≤ (wfn c.ws k).length) (fun c => 2 * (TT - c.ks.length) + (wfn c.ws k).length - c.sp) (fun c => (wfn c.ws k).length ≤ c.sp)
        ⟨od, _, _, kvs, ks, 0, _⟩ F9 N9 ⟨hod, O9⟩ (List.forall_mem_cons.mpr ⟨rfl, List.forall_mem_nil _⟩) ⟨by simp; omega, hR, by rw [wfn_snoc _ _ rfl]; exact I, Nat.zero_le _⟩ ?_ ?_
      · rintro ⟨od, nV, ws, kvs, ks, sp, ts⟩ u h tk ⟨hod, O⟩ ⟨hlen, hR, I, hsp⟩ F N
        dsimp only at *
        k_fold
        have hkl := I.count
        have hkv := hR.len
        rw [hTT] at hkl
        k_steps
        · unfold Hold
          rename_i q _ hs _ _ F9 N9 hin
          have hm := hR.isin hin
          have hl := take_ok hs
          exact ksw_end ⟨od, nV, ws, kvs, ks, sp + 1, _⟩ F9 N9 (fun _ h => h) ⟨hod, O⟩ (List.forall_mem_cons.mpr ⟨rfl, List.forall_mem_nil _⟩) (by walk_at "same2") ⟨hlen, hR, I.skip hs hm, hl⟩ (by dsimp only; omega)
        · unfold Hold
          rename_i q _ hs _ _ hn _ od9 _ _ hod9 _ _ _ _ _ _ _ _ _ c1 _ _ x1 _ _ _ c2 _ _ x2 _ _ _ _ _ _ _ _ z _ hz hz0 hz2 _ x3 _ F9 N9 O9
          have hq := hR.notin hn
          have hpr := I.price hs hq
          have hI := I.put11 hs hq hc0 (by omega) (by omega) (z := z) hz
          have g1 := addAt_two (wfn ws) k (q + (b.length + 1))
          have g2 := addAt_two (addAt (wfn ws) ((k : Int) + 2).toNat (q + (b.length + 1))) k (q + 1)
          have g3 := addAt_len (addAt (addAt (wfn ws) ((k : Int) + 2).toNat (q + (b.length + 1))) ((k : Int) + 2).toNat (q + 1)) ((k : Int) + z).toNat (q + (b.length + 1) + 1) k
          obtain ⟨f1, f2⟩ := hI.put_facts (TT := TT) (wv := wfn ws) (by omega) (by omega) hs hTT
          refine ksw_end ⟨od9, nV, _, _, ks ++ [q], sp + 1, _⟩ F9 N9 (fun _ h => h) ⟨hod9, O9.mono (by simp; omega)⟩ (List.forall_mem_cons.mpr ⟨rfl, List.forall_mem_nil _⟩) (by walk_at "same2") ⟨by simp only [List.length_set]; exact hlen, hR.put hq hpr.1.symm, ?_, ?_⟩ ?_
          all_goals (dsimp only; rw [wfn_set x3 ⟨_, _, _, _⟩ rfl, wfn_set x2 ⟨_, _, _, _⟩ rfl, wfn_set x1 ⟨_, _, _, _⟩ rfl])
          · exact hI
          · exact f1
          · exact f2
        · unfold Hold
          rename_i q _ hs _ _ hn _ od9 _ _ hod9 _ _ _ _ _ _ _ _ _ c1 _ _ x1 _ F9 N9 O9 _ c2 _
          have hq := hR.notin hn
          have hpr := I.price hs hq
          have hI := I.put10 hs hq hc0 (by omega) (by omega)
          have g1 := addAt_two (wfn ws) k (q + (b.length + 1))
          obtain ⟨f1, f2⟩ := hI.put_facts (TT := TT) (wv := wfn ws) (by omega) (by omega) hs hTT
          refine ksw_end ⟨od9, nV, _, _, ks ++ [q], sp + 1, _⟩ F9 N9 (fun _ h => h) ⟨hod9, O9.mono (by simp; omega)⟩ (List.forall_mem_cons.mpr ⟨rfl, List.forall_mem_nil _⟩) (by walk_at "same2") ⟨by simp only [List.length_set]; exact hlen, hR.put hq hpr.1.symm, ?_, ?_⟩ ?_
          all_goals (dsimp only; rw [wfn_set x1 ⟨_, _, _, _⟩ rfl])
          · exact hI
          · exact f1
          · exact f2
        · unfold Hold
          rename_i q _ hs _ _ hn _ od9 _ _ hod9 _ _ _ _ _ _ _ _ _ c1 _ c2 _ _ x1 _ F9 N9 O9 _
          have hq := hR.notin hn
          have hpr := I.price hs hq
          have hI := I.put01 hs hq hc0 (by omega) (by omega)
          have g1 := addAt_two (wfn ws) k (q + 1)
          obtain ⟨f1, f2⟩ := hI.put_facts (TT := TT) (wv := wfn ws) (by omega) (by omega) hs hTT
          refine ksw_end ⟨od9, nV, _, _, ks ++ [q], sp + 1, _⟩ F9 N9 (fun _ h => h) ⟨hod9, O9.mono (by simp; omega)⟩ (List.forall_mem_cons.mpr ⟨rfl, List.forall_mem_nil _⟩) (by walk_at "same2") ⟨by simp only [List.length_set]; exact hlen, hR.put hq hpr.1.symm, ?_, ?_⟩ ?_
          all_goals (dsimp only; rw [wfn_set x1 ⟨_, _, _, _⟩ rfl])
          · exact hI
          · exact f1
          · exact f2
        · unfold Hold
          rename_i q _ hs _ _ hn _ od9 _ _ hod9 _ _ _ _ _ _ _ _ F9 N9 _ c1 _ c2 _
          have hq := hR.notin hn
          have hpr := I.price hs hq
          have hI := I.put00 hs hq hc0 (by omega) (by omega)
          obtain ⟨f1, f2⟩ := hI.put_facts (TT := TT) (wv := wfn ws) (by omega) (by omega) hs hTT
          exact ksw_end ⟨od9, nV, ws, _, ks ++ [q], sp + 1, _⟩ F9 N9 (fun _ h => .tail _ h) ⟨hod9, O.mono (by simp; omega)⟩ (List.forall_mem_cons.mpr ⟨rfl, List.forall_mem_nil _⟩) (by walk_at "same2") ⟨hlen, hR.put hq hpr.1.symm, hI, f1⟩ f2
        · rename_i x9 hx9 _ _ hge
          exact Exit.intro F N (by dsimp only; omega)
      · rintro ⟨od, nV, ws, kvs, ks, sp, ts⟩ u h tk ⟨hod, O⟩ ⟨hlen, hR, I, hsp⟩ hB F N
        dsimp only at *
        have I' := I.next hc0 hB
        k_steps
        unfold Hold
        exact ksw_end ⟨od, nV, ws, kvs, ks, k + 1, _⟩ (by assumption) (by assumption) (fun _ h => h) ⟨hod, O⟩ (List.forall_mem_cons.mpr ⟨rfl, List.forall_mem_nil _⟩) (by walk_at "same2") ⟨hlen, by dsimp only; omega, hR, I'⟩ (by dsimp only; omega)
    · rename_i hge
      rw [hTi] at hge
      exact Exit.intro F N (by rw [hTT]; show TT ≤ ks.length; omega)
  · rintro ⟨od, nV, ws, kvs, ks, k, tc⟩ u h tk ⟨hod, O⟩ ⟨hlen, hkb, hR, I⟩ hB F N
    dsimp only at *
    have hall := I.whole hB
    k_steps
    refine Out.ret (by assumption) (by assumption) (fun q hq => ?_) ⟨P, od, kvs, rfl, rfl, hod, hP, fun h => absurd h (by omega), fun _ i j hi hj => ?_⟩
    · rw [List.mem_singleton.mp hq]; exact .head _
    · have hlt : i * (b.length + 1) + j < (a.length + 1) * (b.length + 1) := by
        have := Nat.mul_le_mul_right (b.length + 1) (show i ≤ a.length by omega)
        rw [Nat.add_mul]
        omega
      have hm := hR.mem (i * (b.length + 1) + j)
      rw [decide_eq_true (hall _ hlt)] at hm
      obtain ⟨v, hv⟩ := Option.isSome_iff_exists.mp hm
      obtain ⟨t, rfl⟩ := hR.val _ v hv
      have hco := co_of (n := b.length) (q := i * (b.length + 1) + j) (i := i) (j := j) (by rw [Nat.mul_comm]; omega) hj
      refine ⟨t, ?_⟩
      rw [hv]
      unfold Dq
      rw [hco.1, hco.2]
end
end Mine

-- Ccomp
theorem Mine.freshCcomp : True := by
  w_top off
  trivial
namespace Mine
section
variable {prog : Program} {w : World} {A : Around} {E : Value → Shared → Prop} {s : Shared} {h₀ : Heap} {L : Addr} {m : Str → Option Value} {env : Env}

theorem newEnv_cell {scope : Scope} {globals : Addr} {closure : List (Str × Addr)} {qual : Str} {x : Str} {Q : Env → Shared → Prop}
    (hcf : ∀ n acc, cellsFrom n scope.names acc = (x, n) :: acc) (hpc : ∀ h, pushCells h scope.names = h.push { cls := .type "cell", data := .cell none })
    (hQ : Q (newEnv scope s.heap.objs.size globals ((x, s.heap.objs.size + 1) :: closure) qual none .none (some env) builtinsNs)
      { s with heap := (s.heap.push { cls := .type "dict", data := .dict #[] }).push { cls := .type "cell", data := .cell none } }) :
    wpAny (model prog w) A (newFunctionEnv scope globals closure [] qual none .none (some env)) Q E s := by
  simp only [newFunctionEnv, Option.isSome_some, if_true]
  refine wpAny_bind (wpAny_alloc ?_)
  refine wpAny_bind (wpAny_layCells _ (fun name kind cells => by cases hkc : kind == NameKind.cell <;> simp [hkc]) _ _ _ _ ?_)
  rw [hcf, hpc, show ({ s with heap := s.heap.push { cls := .type "dict", data := .dict #[] } } : Shared).heap.objs.size = s.heap.objs.size + 1 from Heap.size_push ..]
  simp only [List.forIn_nil]
  exact wpAny_bind (wpAny_pure (wpAny_pure hQ))

/-- a turn's end of a comprehension over a cell -/
def CellEnd (h₀ : Heap) (L : Addr) (m : Str → Option Value) (s₁ : Shared) (led : List (Addr × Obj)) (r : Int) (y : Value) (s₂ : Shared) : Prop :=
  ∃ h' tk t, s₂ = { s₁ with heap := h', toks := tk } ∧ Fr h₀ L h' m ∧ News h₀ L h' led ∧ y = .int r t
theorem CellEnd.intro {s₁ : Shared} {led all : List (Addr × Obj)} {r r' : Int} {t : Tok} {h' : Heap} {tk : Nat} (F : Fr h₀ L h' m) (N : News h₀ L h' all) (sub : ∀ p ∈ led, p ∈ all) (e : r' = r) :
    CellEnd h₀ L m s₁ led r (.int r' t) { s₁ with heap := h', toks := tk } := ⟨h', tk, t, rfl, F, fun p hp => N p (sub p hp), by rw [e]⟩

def CellTurns (prog : Program) (w : World) (A : Around) (h₀ : Heap) (L : Addr) (m : Str → Option Value) (env : Env) (elt : Expr) (x : Str) (scope : Scope) (cl : List (Str × Addr)) (s : Shared) (a : Int) (n : Nat) (g : Int → Int) (news : List (Addr × Obj)) : Prop :=
  ∀ k t I oI C oC c oc D ys h tk (E' : Value → Shared → Prop), a ≤ k → k < a + (n : Int) → oc.data = .cell (some (.int k t)) → Fr h₀ L h m → News h₀ L h ((I, oI) :: (C, oC) :: (c, oc) :: (D, LCg.lst ys) :: news) →
    wpAny (model prog w) A (eval elt (compEnvC scope ((x, c) :: cl) C env)) (CellEnd h₀ L m { s with heap := h, toks := tk } ((I, oI) :: (C, oC) :: (c, oc) :: (D, LCg.lst ys) :: news) (g k)) E' { s with heap := h, toks := tk }

local macro_rules | `(tactic| walk_at "adr") => `(tactic| (first | (show @Ne Nat _ _; omega) | (show @LE.le Nat _ _ _; omega)))
theorem block_cell {elt iter : Expr} {x : Str} {px : Pos} {scope : Scope} {cl : List (Str × Addr)} {pos : Pos} {s₂ : Shared} {I : Addr} {n : Nat} {a : Int} {g : Int → Int} {news : List (Addr × Obj)} {RR : Value → Addr → Result → Shared → Prop}
    (hh : A.handled = none) (hsz : n ≤ sizeLine)
    (hcf : ∀ n acc, cellsFrom n scope.names acc = (x, n) :: acc) (hpc : ∀ h, pushCells h scope.names = h.push { cls := .type "cell", data := .cell none })
    (hkind : scope.kind = .function) (hx : ∀ cl C, (compEnvC scope cl C env).kindOf x = some .cell) (hst : IsRangeIter s₂.heap I a (n : Int) 1)
    (F : Fr h₀ L s₂.heap m) (N : News h₀ L s₂.heap news) (hIL : L ≠ I) (hI₀ : h₀.get? I = none) (off : ∀ p ∈ news, p.1 ≠ I)
    (R : CellTurns prog w A h₀ L m env elt x scope cl s₂ a n g news)
    (hRR : ∀ D C h tk m' ys, Fr h₀ L h m → News h₀ L h ((D, LCg.lst ys) :: news) → h.Ns C m' → h₀.get? C = none → C ≠ L → C ≠ D → (∀ p ∈ news, p.1 ≠ C) → IntsAre ys ((rangeKs a n).map g) → RR (.ref D) C (.ok .next) { s₂ with heap := h, toks := tk }) :
    wpAny (model prog w) A (newList []) (fun acc s₃ => wpAny (model prog w) A (newFunctionEnv scope env.globals cl [] env.qual none .none (some env)) (fun cenv s₄ =>
      codeAny (model prog w) A (.compStart (.ListComp elt [⟨.Name x px, iter, [], 0⟩] scope pos) 0 (.ref I) acc { cenv with scope := relabel scope env }) (RR acc cenv.locals) s₄) E s₃) E s₂ := by
  have W := LCg.range_walks (prog := prog) (w := w) (I := I) hh a n
  have hst0 : IsRangeIter s₂.heap I (a + (0 : Nat) * 1) ((n : Int) - (0 : Nat)) 1 := by simpa using hst
  refine wpAny_newObj_type (newEnv_cell hcf hpc ?_)
  dsimp only
  generalize hz : s₂.heap.objs.size = z
  have e2 : (s₂.heap.push { cls := .type "list", dict := none, data := .seq ([] : List Value).toArray }).objs.size = z + 1 := by rw [Heap.size_push, hz]
  rw [e2]
  generalize hH : Heap.push (Heap.push (s₂.heap.push { cls := .type "list", dict := none, data := .seq ([] : List Value).toArray }) { cls := .type "dict", data := .dict #[] }) { cls := .type "cell", data := .cell none } = h₁
  have hIlt : @LT.lt Nat _ I z := by rw [← hz]; exact Heap.lt_size hst
  have hLlt : @LT.lt Nat _ L z := by rw [← hz]; exact F.ns.lt
  have old : ∀ b o, s₂.heap.get? b = some o → h₁.get? b = some o := fun b o e => hH ▸ Heap.get?_push_of_some _ (Heap.get?_push_of_some _ (Heap.get?_push_of_some _ e))
  have hD : h₁.get? z = some (LCg.lst []) := hH ▸ Heap.get?_push_of_some _ (Heap.get?_push_of_some _ (hz ▸ Heap.get?_push_size _ rfl))
  have hC : h₁.Ns (z + 1) (fun _ => none) := by
    have q : (Heap.push (s₂.heap.push { cls := .type "list", dict := none, data := .seq ([] : List Value).toArray }) { cls := .type "dict", data := .dict #[] }).Ns (z + 1) (fun _ => none) := e2 ▸ Heap.Ns.new _ (.type "dict")
    exact hH ▸ q.at' fun o e => Heap.get?_push_of_some _ e
  have hc : h₁.IsCell (z + 2) none := by
    have e3 : (Heap.push (s₂.heap.push { cls := .type "list", dict := none, data := .seq ([] : List Value).toArray }) { cls := .type "dict", data := .dict #[] }).objs.size = z + 2 := by rw [Heap.size_push, e2]
    exact ⟨_, hH ▸ e3 ▸ Heap.get?_push_size _ rfl, rfl⟩
  have fresh₀ : ∀ b, z ≤ b → h₀.get? b = none := fun b hb => by
    cases e : h₀.get? b with
    | none => rfl
    | some o' => exact absurd (Heap.lt_size (F.keep b o' e)) (Nat.not_lt.mpr (hz ▸ hb))
  have newsLt : ∀ p ∈ news, @LT.lt Nat _ p.1 z := fun p hp => by rw [← hz]; exact Heap.lt_size (N p hp).1
  have loop : ∀ s₃ : Shared, s₃ = { s₂ with heap := h₁ } →
      codeAny (model prog w) A (.compLoop (.ListComp elt [⟨.Name x px, iter, [], 0⟩] scope pos) 0 (.ref I) (.ref z) (compEnvC scope ((x, z + 1 + 1) :: cl) (z + 1) env)) (RR (.ref z) (z + 1)) s₃ := by
    rintro s₃ rfl
    refine codeAny_compLoop_tests
      (fun k s' => ∃ h' tk i ys m' v', s' = { s₂ with heap := h', toks := tk } ∧ i ≤ n ∧ k = n + 1 - i ∧ IsRangeIter h' I (a + (i : Nat) * 1) ((n : Int) - (i : Nat)) 1 ∧ Fr h₀ L h' m ∧ h'.Ns (z + 1) m' ∧ h'.IsCell (z + 2) v' ∧ News h₀ L h' ((z, LCg.lst ys) :: news) ∧ IntsAre ys (((rangeKs a n).take i).map g)) ?_ (n + 1)
      ⟨h₁, _, 0, [], _, none, rfl, Nat.zero_le _, rfl, W.frame _ _ _ hst0 fun b hb o e => old b o e, F.keeps old, hC, hc, fun p hp => ?_, by simpa using IntsAre.nil⟩
    · rintro k s' ⟨h', tk, i, ys, m', v', rfl, hi, rfl, hst', F', hn', hc', N', hys⟩
      by_cases hlt : i < n
      · refine W.item i _ _ _ hlt hst' fun v h₂ tk₂ hPv hst₂ hk₂ => ?_
        obtain ⟨t, rfl⟩ := hPv
        have hc₂ : h₂.IsCell (z + 2) v' := by obtain ⟨o, e, d⟩ := hc'; exact ⟨o, hk₂ _ o (by simp only [List.mem_singleton]; walk_at "adr") e, d⟩
        refine wpAny_assign_Name (wpAny_storeName_cell (c := z + 2) (by simp [compEnvC, relabel, hkind]) (hx _ _) (by simp [compEnvC]) hc₂ fun h₃ hc₃ hs₃ => ?_)
        refine wpAny_tests_nil ?_
        simp only [if_true]
        obtain ⟨oc, hec, hoc⟩ := hc₃
        have hst₃ : IsRangeIter h₃ I (a + ((i + 1 : Nat) : Nat) * 1) ((n : Int) - ((i + 1 : Nat) : Nat)) 1 := W.frame _ _ _ hst₂ fun b hb o e => hs₃.extBut b o (by rw [List.mem_singleton.mp hb]; walk_at "adr") e
        have hn₂ : h₂.Ns (z + 1) m' := hn'.at' fun o e => hk₂ _ o (by simp only [List.mem_singleton]; walk_at "adr") e
        have hn₃ : h₃.Ns (z + 1) m' := hn₂.sameBut hs₃ (by walk_at "adr")
        obtain ⟨oC, heC, hoC⟩ := LCg.ns_obj hn₃
        have F₃ : Fr h₀ L h₃ m := (LCg.fr_but F' hk₂ hIL hI₀).change hs₃ (by walk_at "adr") (fresh₀ _ (by walk_at "adr"))
        have N₂ : News h₀ L h₂ ((z, LCg.lst ys) :: news) := LCg.news_but N' hk₂ fun p hp => by
          rcases List.mem_cons.mp hp with rfl | hp
          · walk_at "adr"
          · exact off p hp
        have N₃ : News h₀ L h₃ ((I, _) :: (z + 1, oC) :: (z + 2, oc) :: (z, LCg.lst ys) :: news) := fun p hp => by
          rcases List.mem_cons.mp hp with rfl | hp
          · exact ⟨hst₃, Ne.symm hIL, hI₀⟩
          · rcases List.mem_cons.mp hp with rfl | hp
            · exact ⟨heC, by walk_at "adr", fresh₀ _ (by walk_at "adr")⟩
            · rcases List.mem_cons.mp hp with rfl | hp
              · exact ⟨hec, by walk_at "adr", fresh₀ _ (by walk_at "adr")⟩
              · have q := N₂ p hp
                refine ⟨hs₃.extBut _ _ ?_ q.1, q.2⟩
                rcases List.mem_cons.mp hp with rfl | hp
                · walk_at "adr"
                · have := newsLt p hp; walk_at "adr"
        refine wpAny_mono (R (a + (i : Int)) t I _ (z + 1) oC (z + 2) oc z ys h₃ _ _ (by omega) (by omega) hoc F₃ N₃) (fun y s₄ h₄ => ?_) fun _ _ e => e
        obtain ⟨h₄, tk₄, t₄, rfl, F₄, N₄, rfl⟩ := h₄
        have zD := (N₄ (z, LCg.lst ys) (by simp)).1
        have zI := (N₄ _ List.mem_cons_self).1
        have zC := (N₄ (z + 1, oC) (by simp)).1
        have zc := (N₄ (z + 2, oc) (by simp)).1
        have hyl : ys.length = i := by
          have := hys.length
          simp only [List.length_map, List.length_take, rangeKs_length] at this
          omega
        refine append_at (hsz := by show ys.toArray.size ≤ sizeLine; rw [List.size_toArray, hyl]; exact Nat.le_trans hi hsz) zD fun h₅ hs₅ hD₅ => ?_
        refine ⟨n + 1 - (i + 1), by omega, h₅, tk₄, i + 1, ys ++ [.int (g (a + (i : Int))) t₄], m', _, rfl, hlt, rfl, hs₅.extBut _ _ (by walk_at "adr") zI, F₄.change hs₅ (by walk_at "adr") (fresh₀ _ (by walk_at "adr")), (hoC.ns zC).sameBut hs₅ (by walk_at "adr"), ⟨oc, hs₅.extBut _ _ (by walk_at "adr") zc, hoc⟩, fun p hp => ?_, ?_⟩
        · rcases List.mem_cons.mp hp with rfl | hp
          · exact ⟨hD₅.trans (congrArg some (LCg.lst_snoc ys _)), by walk_at "adr", fresh₀ _ (by walk_at "adr")⟩
          · have q := N₄ p (by simp [hp])
            exact ⟨hs₅.extBut _ _ (by have := newsLt p hp; walk_at "adr") q.1, q.2⟩
        · have hk : (rangeKs a n)[i]? = some (a + (i : Int)) := by simp [rangeKs, hlt]
          rw [List.take_add_one, hk]
          simpa using IntsAre.append hys (.cons (g (a + (i : Int))) t₄ .nil)
      · obtain rfl : i = n := Nat.le_antisymm hi (Nat.not_lt.mp hlt)
        refine W.done _ _ _ hst' fun h₂ tk₂ hk₂ => ?_
        rw [show (rangeKs a i).take i = rangeKs a i by rw [List.take_of_length_le (by rw [rangeKs_length]; exact Nat.le_refl _)]] at hys
        refine hRR _ _ h₂ tk₂ m' ys (LCg.fr_but F' hk₂ hIL hI₀) (LCg.news_but N' hk₂ fun p hp => ?_) (hn'.at' fun o e => hk₂ _ o (by simp only [List.mem_singleton]; walk_at "adr") e) (fresh₀ _ (by walk_at "adr")) (by walk_at "adr") (by walk_at "adr") (fun p hp => by have := newsLt p hp; walk_at "adr") hys
        rcases List.mem_cons.mp hp with rfl | hp
        · walk_at "adr"
        · exact off p hp
    · rcases List.mem_cons.mp hp with rfl | hp
      · exact ⟨hD, by walk_at "adr", fresh₀ _ (by walk_at "adr")⟩
      · exact ⟨old _ _ (N p hp).1, (N p hp).2⟩
  exact codeAny_compStart_list (loop _ rfl) (W.self 0 _ _ _ (W.frame _ _ _ hst0 fun b hb o e => old b o e) (loop _ rfl))

def CellSrc (prog : Program) (w : World) (A : Around) (h₀ : Heap) (L : Addr) (m : Str → Option Value) (env : Env) (elt : Expr) (x : Str) (scope : Scope) (cl : List (Str × Addr)) (y : Str) (Q : Flow → Shared → Prop) (xv : Value) (s₁ : Shared) : Prop :=
  ∃ r a b t u v n g news, xv = .ref r ∧ A.handled = none ∧ Fr h₀ L s₁.heap m ∧ News h₀ L s₁.heap news ∧ IsRange s₁.heap r a b 1 t u v ∧ Builtin.Range.small a b 1 = true ∧ Builtin.Range.rangeSize a b 1 = ((n : Nat) : Int) ∧ n ≤ sizeLine ∧
    (∀ gh, CellTurns prog w A h₀ L m env elt x scope cl { s₁ with heap := gh } a n g news) ∧
    ∀ D ys h tk, IntsAre ys ((rangeKs a n).map g) → Fr h₀ L h (fun z => if z = y then some (.ref D) else m z) → News h₀ L h ((D, LCg.lst ys) :: news) → Q .next { s₁ with heap := h, toks := tk }

theorem Assign_cell {elt iter : Expr} {x y : Str} {px py : Pos} {scope : Scope} {cl : List (Str × Addr)} {pos spos : Pos} {Q : Flow → Shared → Prop} (F₀ : Fr h₀ env.locals s.heap m)
    (hsw : swapsWith (.ListComp elt [⟨.Name x px, iter, [], 0⟩] scope pos) (some (.Name y py)) spos.line env = pure true)
    (hclos : closureFor scope env = pure cl) (hcf : ∀ n acc, cellsFrom n scope.names acc = (x, n) :: acc) (hpc : ∀ h, pushCells h scope.names = h.push { cls := .type "cell", data := .cell none }) (hkind : scope.kind = .function)
    (hnames : ∀ z ∈ scope.names, z.2 = .local → scope.names.lookup z.1 = some .local) (hx : ∀ cl C, (compEnvC scope cl C env).kindOf x = some .cell)
    (hy : env.kindOf y = some .local) (hp : (env.scope.kind == .class || (env.scope.kind == .module && env.locals != env.globals)) = false)
    (h : wpAny (model prog w) A (eval iter env) (CellSrc prog w A h₀ env.locals m env elt x scope cl y Q) E s)
    (hs : ∀ x, foldedSetIterable iter env x = pure x := by intro _; rfl) :
    wpAny (model prog w) A (exec (.Assign [.Name y py] (.ListComp elt [⟨.Name x px, iter, [], 0⟩] scope pos) spos) env) Q E s := by
  rw [exec_Assign_Name_used _ _ _ _ hsw]
  refine wpAny_bind (wpAny_standAt (wpAny_bind ?_))
  show wpAny _ A (do let _ ← comprehension (.ListComp elt [⟨.Name x px, iter, [], 0⟩] scope pos) scope env _ (newList []) false (eval iter env) (some (assign (.Name y py) env))) _ _ s
  refine wpAny_bind (wpAny_mono (wpAny_comprehension_free (use := some (assign (.Name y py) env)) (Q := fun _ s' => Q .next s') rfl hs hclos hkind hnames
    (wpAny_mono h (fun xv s₁ h₁ => ?_) fun _ _ e => e)) (fun _ s' hq => wpAny_pure (wpAny_pure hq)) fun _ _ e => e)
  obtain ⟨r, a, b, t, u, v, n, g, news, rfl, hh, F, N, hr, hsm, hn, hsz, R, fin⟩ := h₁
  refine wpAny_pyIter_range hr hsm ?_
  refine block_cell (news := news) (a := a) (n := n) hh hsz hcf hpc hkind hx (by show IsRangeIter _ _ _ _ _; rw [hn]; exact Heap.get?_push_size _ rfl)
      (F.keeps fun _ _ e => Heap.get?_push_of_some _ e) (N.grown fun _ _ e => Heap.get?_push_of_some _ e) (Nat.ne_of_lt F.ns.lt) (next_is_new F) (fun p hp => Nat.ne_of_lt (Heap.lt_size (N p hp).1)) (R _) ?_
  intro D C h' tk m' ys F' N' hnC hC₀ hCL hCD offC hys
  show wpAny _ A (assign (.Name y py) env (.ref D)) _ _ _
  refine wpAny_assign_Name (wpAny_storeName_local hy F'.ns (fun h₂ hn₂ hs₂ => ?_) hp)
  have hL₀ : h₀.get? env.locals = none := Heap.get?_none_of_le F'.above
  have F₂ : Fr h₀ env.locals h₂ (fun z => if z = y then some (.ref D) else m z) := ⟨hn₂, fun b o e => hs₂.extBut b o (fun q => by rw [q, hL₀] at e; cases e) (F'.keep b o e), F'.above⟩
  refine ⟨m', hnC.sameBut hs₂ hCL, fun h'' hs'' => fin D ys h'' _ hys (F₂.change hs'' hCL hC₀) (fun p hp => ?_)⟩
  have zz : h₂.get? p.1 = some p.2 := hs₂.extBut _ _ (N' p hp).2.1 (N' p hp).1
  refine ⟨hs''.extBut _ _ ?_ zz, (N' p hp).2⟩
  rcases List.mem_cons.mp hp with rfl | hp
  · exact Ne.symm hCD
  · exact offC p hp
end
end Mine

-- Pure5
theorem Mine.freshPure5 : True := by
  w_top off
  trivial
namespace Mine
/-- a line of the table lies wholly above the bound -/
def Far (dd : Nat → Nat → Int) (m n : Nat) (rt : Bool) (bd : Int) : Prop :=
  if rt = true then ∃ j, j < n ∧ ∀ i, i < m → bd < dd (i + 1) (j + 1) else ∃ i, i < m ∧ ∀ j, j < n → bd < dd (i + 1) (j + 1)
/-- what the law's own answer comes to -/
structure Ans (dd : Nat → Nat → Int) (m n : Nat) (rt : Bool) (bd z : Int) : Prop where
  zero : m = 0 ∨ n = 0 → z = 2 * ((m : Int) + n)
  long : m ≠ 0 → n ≠ 0 → 40 < m → z = bd + 1
  far : m ≠ 0 → n ≠ 0 → m ≤ 40 → Far dd m n rt bd → z = bd + 1
  near : m ≠ 0 → n ≠ 0 → m ≤ 40 → ¬ Far dd m n rt bd → z = dd m n

theorem levRows_is {c : Nat → Nat → Int} {ly lx : Nat} {mc z : Int} (hF : (∃ j, j < ly ∧ ∀ k, k < lx → mc < D c (j + 1) (k + 1)) → z = mc + 1)
    (hN : (¬ ∃ j, j < ly ∧ ∀ k, k < lx → mc < D c (j + 1) (k + 1)) → z = D c ly lx) : levRows c ly lx mc = z := by
  have key : ∀ j, far c lx mc j = true ↔ ∀ k, k < lx → mc < D c (j + 1) (k + 1) := fun j => by
    unfold far
    rw [List.all_eq_true]
    constructor
    · intro h k hk; exact of_decide_eq_true (h k (List.mem_range.mpr hk))
    · intro h k hk; exact decide_eq_true (h k (List.mem_range.mp hk))
  by_cases h : ∃ j, j < ly ∧ ∀ k, k < lx → mc < D c (j + 1) (k + 1)
  · rw [hF h]
    obtain ⟨j, hj, hk⟩ := h
    exact levRows_far hj ((key j).mpr hk)
  · rw [hN h]
    refine levRows_end fun j hj => ?_
    cases e : far c lx mc j with
    | false => rfl
    | true => exact absurd ⟨j, hj, (key j).mp e⟩ h
theorem levPair_is {x y : List Int} {mc z : Int} (hy : 0 < y.length) (hF : (∃ j, j < y.length ∧ ∀ k, k < x.length → mc < D (cst x y) (j + 1) (k + 1)) → z = mc + 1)
    (hN : (¬ ∃ j, j < y.length ∧ ∀ k, k < x.length → mc < D (cst x y) (j + 1) (k + 1)) → z = D (cst x y) y.length x.length) : levPair x y mc = z := by
  unfold levPair
  by_cases h : mc < ((y.length : Int) - x.length) * 2
  · rw [if_pos h]
    refine (hF ⟨y.length - 1, by omega, fun k hk => ?_⟩).symm
    have := (D_lower (cst x y) (cst_nonneg x y) _ (y.length - 1 + 1) (k + 1) rfl).1
    omega
  · rw [if_neg h]
    exact levRows_is hF hN
theorem cst_flip (x y : List Int) (i j : Nat) : cst x y j i = cst y x i j := by unfold cst; rw [chg_comm]
theorem D_turn (x y : List Int) (i j : Nat) : D (cst x y) j i = D (cst y x) i j := by
  rw [D_flip (cst x y) _ j i rfl]
  congr 1
  funext a b
  exact cst_flip x y a b
theorem len_pos {l : List Int} (h : l ≠ []) : 0 < l.length := by cases l with | nil => exact absurd rfl h | cons _ _ => simp

theorem lev_of (X Y : List Int) (mc z : Int) (rt : Bool) (hR : Y.length ≤ 40) (A : Ans (D (cst Y X)) X.length Y.length rt mc z) (hx : X ≠ []) (hy : Y ≠ []) (h40 : X.length ≤ 40) :
    (rt = true → levPair X Y mc = z) ∧ (rt = false → levPair Y X mc = z) := by
  have px := len_pos hx
  have py := len_pos hy
  refine ⟨fun e => ?_, fun e => ?_⟩
  · refine levPair_is py (fun h => A.far (by omega) (by omega) h40 ?_) fun h => (A.near (by omega) (by omega) h40 ?_).trans (D_turn X Y _ _).symm
    · unfold Far; rw [if_pos e]
      obtain ⟨j, hj, hk⟩ := h
      exact ⟨j, hj, fun i hi => by rw [← D_turn X Y]; exact hk i hi⟩
    · unfold Far; rw [if_pos e]
      rintro ⟨j, hj, hk⟩
      exact h ⟨j, hj, fun i hi => by rw [D_turn X Y]; exact hk i hi⟩
  · refine levPair_is px (fun h => A.far (by omega) (by omega) h40 ?_) fun h => A.near (by omega) (by omega) h40 ?_
    · unfold Far; rw [if_neg (by rw [e]; decide)]; exact h
    · unfold Far; rw [if_neg (by rw [e]; decide)]; exact h
/-- the one way round -/
theorem lev_one (a b : List Int) (mc z : Int) (rt : Bool) (hrt : rt = decide ((midL a b).length ≤ (midR a b).length)) (hR : (midR a b).length ≤ 40) (A : Ans (D (cst (midR a b) (midL a b))) (midL a b).length (midR a b).length rt mc z) : lev a b mc = z := by
  unfold lev
  by_cases h0 : midL a b = [] ∨ midR a b = []
  · rw [if_pos h0]
    refine (A.zero ?_).symm
    rcases h0 with h | h
    · left; rw [h]; rfl
    · right; rw [h]; rfl
  rw [if_neg h0]
  have hx : midL a b ≠ [] := fun h => h0 (.inl h)
  have hy : midR a b ≠ [] := fun h => h0 (.inr h)
  have px := len_pos hx
  have py := len_pos hy
  by_cases h40 : 40 < (midL a b).length
  · rw [if_pos (.inl h40)]
    exact (A.long (by omega) (by omega) h40).symm
  rw [if_neg (by omega)]
  obtain ⟨h1, h2⟩ := lev_of _ _ mc z rt hR A hx hy (by omega)
  by_cases hl : (midR a b).length < (midL a b).length
  · rw [if_pos hl]
    exact h2 (by rw [hrt]; exact decide_eq_false (by omega))
  · rw [if_neg hl]
    exact h1 (by rw [hrt]; exact decide_eq_true (by omega))
/-- and the other -/
theorem lev_two (a b : List Int) (mc z : Int) (rt : Bool) (hrt : rt = decide ((midL a b).length < (midR a b).length)) (hR : (midR a b).length ≤ 40) (A : Ans (D (cst (midR a b) (midL a b))) (midL a b).length (midR a b).length rt mc z) : lev b a mc = z := by
  unfold lev
  rw [mid_comm a b, mid_comm' a b]
  by_cases h0 : midL a b = [] ∨ midR a b = []
  · rw [if_pos h0.symm]
    rw [Int.add_comm]
    refine (A.zero ?_).symm
    rcases h0 with h | h
    · left; rw [h]; rfl
    · right; rw [h]; rfl
  rw [if_neg (fun h => h0 h.symm)]
  have hx : midL a b ≠ [] := fun h => h0 (.inl h)
  have hy : midR a b ≠ [] := fun h => h0 (.inr h)
  have px := len_pos hx
  have py := len_pos hy
  by_cases h40 : 40 < (midL a b).length
  · rw [if_pos (.inr h40)]
    exact (A.long (by omega) (by omega) h40).symm
  rw [if_neg (by omega)]
  obtain ⟨h1, h2⟩ := lev_of _ _ mc z rt hR A hx hy (by omega)
  by_cases hl : (midL a b).length < (midR a b).length
  · rw [if_pos hl]
    exact h1 (by rw [hrt]; exact decide_eq_true (by omega))
  · rw [if_neg hl]
    exact h2 (by rw [hrt]; exact decide_eq_false (by omega))

/-- the least of f 1 .. f n -/
def mn (f : Nat → Int) : Nat → Int
  | 0 => f 1
  | 1 => f 1
  | n + 2 => min (mn f (n + 1)) (f (n + 2))
theorem mn_le (f : Nat → Int) : ∀ n i, 1 ≤ i → i ≤ n → mn f n ≤ f i
  | 0, i, h1, h2 => by omega
  | 1, i, h1, h2 => by have : i = 1 := by omega
                       subst this; simp [mn]
  | n + 2, i, h1, h2 => by
    rw [mn]
    by_cases h : i = n + 2
    · subst h; exact Int.min_le_right _ _
    · exact Int.le_trans (Int.min_le_left _ _) (mn_le f (n + 1) i h1 (by omega))
theorem mn_at (f : Nat → Int) : ∀ n, 1 ≤ n → ∃ i, 1 ≤ i ∧ i ≤ n ∧ mn f n = f i
  | 0, h => by omega
  | 1, _ => ⟨1, Nat.le_refl _, Nat.le_refl _, by simp [mn]⟩
  | n + 2, _ => by
    rw [mn]
    by_cases h : mn f (n + 1) ≤ f (n + 2)
    · obtain ⟨i, h1, h2, h3⟩ := mn_at f (n + 1) (by omega)
      exact ⟨i, h1, by omega, by rw [Int.min_eq_left h]; exact h3⟩
    · exact ⟨n + 2, by omega, by omega, by rw [Int.min_eq_right (by omega)]⟩
theorem mn_is (f : Nat → Int) (n : Nat) (hn : 1 ≤ n) (M : Int) (h1 : ∃ i, 1 ≤ i ∧ i ≤ n ∧ M = f i) (h2 : ∀ i, 1 ≤ i → i ≤ n → M ≤ f i) : M = mn f n := by
  obtain ⟨i, hi, hi', e⟩ := h1
  obtain ⟨j, hj, hj', e'⟩ := mn_at f n hn
  have := mn_le f n i hi hi'
  have := h2 j hj hj'
  omega
end Mine

-- EnterC
theorem Mine.freshEnterC : True := by
  w_top off
  trivial
namespace Mine
section
variable {prog : Program} {w : World} {p : Program} {loose : List Str} {mean : ExcName → Option Value} {mg mb : Str → Option Value}
/-- entering a def with cells over the caller's whole heap -/
theorem Spec.enterC {f : Addr} {vs : List Value} {H : Heap} {R : Value → List (Addr × Obj) → Prop} {deep : Nat} {name qual : Str} {params : Arguments} {body : List Stmt} {scope : Scope} {dV kV doc pm cdv ct oc : Value} {an od : Option Addr} {osl : Array (Option Value)} {binds : List (Str × Value)}
    (ho : (hd.heap_39 w.params).lookup f = some ⟨oc, od, .func (fnOf name qual params body scope dV kV doc pm an cdv ct), osl⟩) (hcd : codeIn (hd.heap_39 w.params) cdv qual = true)
    (hbind : ∀ s, BindsTo s (fnOf name qual params body scope dV kV doc pm an cdv ct) ⟨vs, []⟩ binds) (hkind : (binds.all fun y => scope.names.lookup y.1 == some .local || scope.names.lookup y.1 == some .cell) = true)
    (hco : scope.isCoroutine = false) (hgen : scope.isGenerator = false) (hk : scope.kind = .function) (hnd : ((cellsFrom 0 scope.names []).map (·.1)).Nodup) (hdeep : 0 < deep)
    (h : ∀ (dp un : Nat) (gd : Option (List Code)) (outer : List Env) (A₀ : Around) (base : Heap) (L' : Addr) (h₁ : Heap) (s : Shared) (tk : Nat) (cells : List (Addr × Obj)), Below A₀ base outer H → Fr H L' h₁ (bindL (envOfC qual scope L' f cdv).kindOf binds fun _ => none) → News H L' h₁ cells →
      CellsAre (bindC (envOfC qual scope L' f cdv).kindOf binds fun _ => none) (cellsFrom (L' + 1) scope.names []) cells → (hd.heap_39 w.params).In H → Top p loose mean mg mb H → dp + deep < 501 → un + 20 * deep < 5003 →
      wpAny (model prog w) (ktrTop dp un gd qual scope L' f cdv (cellsFrom (L' + 1) scope.names []) outer) (execs body (envOfC qual scope L' f cdv)) (Out H R s) (fun _ _ => False) { s with heap := h₁, toks := tk }) :
    Spec prog w p loose mean mg mb f vs H R deep := by
  intro dp un gd cn cs a ccd cl outer A₀ base h₀ L m s Q E e B F X T hk' hd hu k
  subst e
  refine wpAny_call (codeAny_call_function (fd := fnOf name qual params body scope dV kV doc pm an cdv ct) (body := body) (by show dp < recursionLimit; unfold recursionLimit; omega) (X.keeps F.keep _ _ ho) rfl hco hgen rfl (codeRec_of (X.keeps F.keep) hcd) (hbind s _ _ _ _ ?_))
  refine wpAny_newFunctionEnv_cells hk (kindsX hkind _) fun env' he s' x => ?_
  subst he
  refine ⟨(T.nolimit.keeps F.keep).keeps x.toInCall.keep, codeAny_func ?_⟩
  obtain ⟨h₁, tk, rfl, _⟩ := x.done
  have hk₁ := x.toInCall.keep
  obtain ⟨cells, NC, Y⟩ := Cl.news (h₀ := s.heap) (Nat.le_refl _) fun n c hm => ⟨x.cell n c (lookup_of_mem_nodup (cellsFrom_names scope.names 0 (s.heap.objs.size + 1) [] [] rfl ▸ hnd) hm), x.above n c hm⟩
  have B₁ := pushX (env := envX cn cs L a ccd cl) B F rfl hk'
  refine wpAny_mono (h (dp + 1) (un + 3) gd (envX cn cs L a ccd cl :: outer) _ base s.heap.objs.size h₁ s tk cells B₁ ⟨x.toInCall.ns, hk₁, Nat.le_refl _⟩ NC Y (X.keeps F.keep) (T.keeps F.keep) (by omega) (by omega)) (fun fl s' hl => ?_) fun _ _ x => x.elim
  obtain ⟨L', m', new, h', tk', rfl, F', N', hR⟩ := hl
  exact k _ h' tk' new (fun b o e => F'.keep b o e) (fun q hq => ⟨(N' q hq).1, (N' q hq).2.2⟩) hR
end
section
variable {prog : Program} {w : World} {A : Around} {E : Value → Shared → Prop} {s : Shared} {h₀ : Heap} {L P : Addr} {m : Str → Option Value} {od : Obj} {kvs : List (Int × Value)}
theorem price_at {value slice : Expr} {k : Int} {t : Tok} {v : Value} {Q : Value → Shared → Prop} (F : Fr h₀ L s.heap m) (hP : h₀.get? P = some od) (ho : od.IsDictOf (intKind prog w) kvs) (hv : valueAt kvs k = some v) (h : ∀ tk, Q v { s with toks := tk })
    (hs : subscripted slice false (.ref P) (.int k t) = operate [.ref P, .int k t] (getItem (.ref P) (.int k t)) := by with_unfolding_all rfl) :
    wpAny (model prog w) A (subscriptTail value slice (.ref P) (.int k t)) Q E s := by
  have hD : s.heap.DictOf (intKind prog w) P kvs := Heap.dictOf_iff.mpr ⟨od, F.keep _ _ hP, ho⟩
  refine tail_any ?_ slot_dict_getitem.lookup (wpAny_getItem_of (intKind_is prog w k t) hD.mapOf hv (h _)) hs
  exact hD.mapOf.typeIs
end
end Mine

-- Wanswer
theorem Mine.freshWanswer : True := by
  w_top off
  trivial
namespace Mine
section
variable {prog : Program} {w : World} {p : Program} {loose : List Str} {mean : ExcName → Option Value} {mg mb : Str → Option Value}
local macro_rules | `(tactic| walk_at "exec Assign cons ListComp") => `(tactic| (refine Hold.out ?_))
local macro_rules | `(tactic| walk_at "CellSrc") => `(tactic| (refine Hold.out ?_))
local macro_rules | `(tactic| walk_at "CompSrc") => `(tactic| (refine Hold.out ?_))
local macro_rules | `(tactic| walk_at "CellEnd") => `(tactic| (refine Hold.out ?_))
local macro_rules | `(tactic| walk_at "KCfEl") => `(tactic| (refine Hold.out ?_))
theorem range_fits1 {n : Nat} (hn : n < 1000000) : Builtin.Range.small 1 ((n : Int) + 1) 1 = true ∧ Builtin.Range.rangeSize 1 ((n : Int) + 1) 1 = (n : Int) := by
  have e : Builtin.Range.rangeSize 1 ((n : Int) + 1) 1 = (n : Int) := by
    unfold Builtin.Range.rangeSize
    simp only [Int.ediv_one]
    (repeat' split) <;> omega
  refine ⟨?_, e⟩
  unfold Builtin.Range.small
  rw [e]
  unfold Builtin.Range.rangeFitsLong
  simp only [Bool.and_eq_true, decide_eq_true_eq, Bool.or_eq_true, beq_iff_eq, gt_iff_lt, Int.reduceLT, if_true]
  omega
theorem price_atZ {A : Around} {E : Value → Shared → Prop} {s : Shared} {h₀ : Heap} {L P : Addr} {mm : Str → Option Value} {od : Obj} {kvs : List (Int × Value)} {dd : Nat → Nat → Int} {m n : Nat} {value slice : Expr} {i j : Int} {t : Tok} {Q : Value → Shared → Prop} (F : Fr h₀ L s.heap mm) (hP : h₀.get? P = some od) (ho : od.IsDictOf (intKind prog w) kvs)
    (hv : ∀ i j, i ≤ m → j ≤ n → ∃ t, valueAt kvs ((i * (n + 1) + j : Nat) : Int) = some (.int (dd i j) t)) (hi : 0 ≤ i) (hi' : i ≤ m) (hj : 0 ≤ j) (hj' : j ≤ n) (h : ∀ t tk, Q (.int (dd i.toNat j.toNat) t) { s with toks := tk })
    (hs : subscripted slice false (.ref P) (.int (i * ((n : Int) + 1) + j) t) = operate [.ref P, .int (i * ((n : Int) + 1) + j) t] (getItem (.ref P) (.int (i * ((n : Int) + 1) + j) t)) := by with_unfolding_all rfl) :
    wpAny (model prog w) A (subscriptTail value slice (.ref P) (.int (i * ((n : Int) + 1) + j) t)) Q E s := by
  obtain ⟨a, rfl⟩ := Int.eq_ofNat_of_zero_le hi
  obtain ⟨b, rfl⟩ := Int.eq_ofNat_of_zero_le hj
  obtain ⟨t', ht⟩ := hv a b (by omega) (by omega)
  refine price_at F hP ho (v := .int (dd a b) t') ?_ (fun tk => h t' tk) hs
  rw [← ht]
  congr 1
local macro_rules | `(tactic| walk_at "subscriptTail") => `(tactic| ((with_reducible show wpAny _ _ (subscriptTail _ _ (Value.ref _) (Value.int _ _)) _ _ _); k_dflt (refine' price_atZ ?k1 ?k2 ?k3 ?k4 ?k5 ?k6 ?k7 ?k8 ?_; (case k1 => k_asm); (case k2 => assumption); (case k3 => assumption); (case k4 => assumption); (case k5 => omega); (case k6 => omega); (case k7 => omega); (case k8 => omega); k_whole); intro t' tk'))
theorem mn_range (f : Nat → Int) {m : Nat} (hm : 1 ≤ m) {M : Int} (h1 : M ∈ (rangeKs 1 m).map (fun i => f i.toNat)) (h2 : ∀ a, a ∈ (rangeKs 1 m).map (fun i => f i.toNat) → M ≤ a) : M = mn f m := by
  refine mn_is f m hm M ?_ fun i h1 h2' => ?_
  · obtain ⟨k, hk, rfl⟩ := List.mem_map.mp h1
    have := mem_rangeKs hk
    exact ⟨k.toNat, by omega, by omega, rfl⟩
  · refine h2 _ (List.mem_map.mpr ⟨(i : Int), kre_mem (by omega) (by omega), by rw [Int.toNat_natCast]⟩)
theorem line_far (f : Nat → Nat → Int) {m n : Nat} {M bd : Int} (hm : 1 ≤ m) (h1 : M ∈ (rangeKs 1 n).map (fun k => mn (fun i => f i k.toNat) m)) (h2 : ∀ a, a ∈ (rangeKs 1 n).map (fun k => mn (fun i => f i k.toNat) m) → a ≤ M) :
    bd < M ↔ ∃ j, j < n ∧ ∀ i, i < m → bd < f (i + 1) (j + 1) := by
  constructor
  · intro h
    obtain ⟨k, hk, rfl⟩ := List.mem_map.mp h1
    have := mem_rangeKs hk
    refine ⟨k.toNat - 1, by omega, fun i hi => ?_⟩
    have e : k.toNat - 1 + 1 = k.toNat := by omega
    rw [e]
    have := mn_le (fun i => f i k.toNat) m (i + 1) (by omega) (by omega)
    omega
  · rintro ⟨j, hj, h⟩
    have q := h2 _ (List.mem_map.mpr ⟨((j + 1 : Nat) : Int), kre_mem (by omega) (by omega), rfl⟩)
    obtain ⟨i, hi, hi', e⟩ := mn_at (fun i => f i (((j + 1 : Nat) : Int)).toNat) m hm
    rw [e] at q
    have := h (i - 1) (by omega)
    rw [show i - 1 + 1 = i by omega] at this
    rw [Int.toNat_natCast] at q
    omega
theorem ans_hi {dd : Nat → Nat → Int} {m n : Nat} {rt : Bool} {bd : Int} (hm : ¬ (m : Int) = 0) (hn : ¬ (n : Int) = 0) (h40 : m ≤ 40) (h : Far dd m n rt bd) : Ans dd m n rt bd (bd + 1) :=
  ⟨fun _ => by omega, fun _ _ _ => rfl, fun _ _ _ _ => rfl, fun _ _ _ q => absurd h q⟩
theorem ans_lo {dd : Nat → Nat → Int} {m n : Nat} {rt : Bool} {bd : Int} (hm : ¬ (m : Int) = 0) (hn : ¬ (n : Int) = 0) (h40 : m ≤ 40) (h : ¬ Far dd m n rt bd) : Ans dd m n rt bd (dd (m : Int).toNat (n : Int).toNat) :=
  ⟨fun _ => by omega, fun _ _ _ => by omega, fun _ _ _ q => absurd q h, fun _ _ _ _ => by rw [Int.toNat_natCast, Int.toNat_natCast]⟩
theorem far_true {dd : Nat → Nat → Int} {m n : Nat} {rt : Bool} {bd : Int} (e : rt = true) : Far dd m n rt bd ↔ ∃ j, j < n ∧ ∀ i, i < m → bd < dd (i + 1) (j + 1) := by unfold Far; rw [if_pos e]
theorem far_false {dd : Nat → Nat → Int} {m n : Nat} {rt : Bool} {bd : Int} (e : rt = false) : Far dd m n rt bd ↔ ∃ j, j < m ∧ ∀ i, i < n → bd < dd (j + 1) (i + 1) := by unfold Far; rw [if_neg (by rw [e]; decide)]
section
variable {A : Around} {E : Value → Shared → Prop} {s : Shared} {h₀ : Heap} {L D : Addr} {mm : Str → Option Value} {news : List (Addr × Obj)} {ys : List Value} {ns : List Int} {Q : Value → Shared → Prop}
theorem lst_at {h : Heap} (N : News h₀ L h news) (hm : (D, LCg.lst ys) ∈ news) : h.IsList D ys.toArray := ⟨_, (N _ hm).1, rfl, _, rfl⟩
theorem min_made (hh : A.handled = none) (F : Fr h₀ L s.heap mm) (N : News h₀ L s.heap news) (hm : (D, LCg.lst ys) ∈ news) (hi : IntsAre ys ns) (hne : 0 < ns.length)
    (h : ∀ h' M (t : Tok) tk, Fr h₀ L h' mm → News h₀ L h' news → M ∈ ns → (∀ a, a ∈ ns → M ≤ a) → Q (.int M t) { s with heap := h', toks := tk }) : wpAny (model prog w) A (call (.builtin "min") [.ref D]) Q E s := min_list_N hh F N (lst_at N hm) hi hne h
theorem max_made (hh : A.handled = none) (F : Fr h₀ L s.heap mm) (N : News h₀ L s.heap news) (hm : (D, LCg.lst ys) ∈ news) (hi : IntsAre ys ns) (hne : 0 < ns.length)
    (h : ∀ h' M (t : Tok) tk, Fr h₀ L h' mm → News h₀ L h' news → M ∈ ns → (∀ a, a ∈ ns → a ≤ M) → Q (.int M t) { s with heap := h', toks := tk }) : wpAny (model prog w) A (call (.builtin "max") [.ref D]) Q E s := max_list_N hh F N (lst_at N hm) hi hne h
end
local macro_rules | `(tactic| walk_at "call builtin:min") => `(tactic| ((with_reducible show wpAny _ _ (PySem.call (Value.builtin _) [Value.ref _]) _ _ _); k_dflt (refine' min_made ?k0 ?k1 ?k2 ?k3 ?k4 ?k5 ?_; (case k0 => exact rfl); (case k1 => k_asm); (case k2 => k_asm); (case k3 => exact List.Mem.head _); (case k4 => assumption); (case k5 => (simp only [List.length_map, rangeKs_length]; omega)); k_whole); intro h' M' t' tk' F' N' a' b'))
local macro_rules | `(tactic| walk_at "call builtin:max") => `(tactic| ((with_reducible show wpAny _ _ (PySem.call (Value.builtin _) [Value.ref _]) _ _ _); k_dflt (refine' max_made ?k0 ?k1 ?k2 ?k3 ?k4 ?k5 ?_; (case k0 => exact rfl); (case k1 => k_asm); (case k2 => k_asm); (case k3 => exact List.Mem.head _); (case k4 => assumption); (case k5 => (simp only [List.length_map, rangeKs_length]; omega)); k_whole); intro h' M' t' tk' F' N' a' b'))
set_option maxRecDepth 100000 in
set_option maxHeartbeats 8000000 in
theorem answer_call (P : Addr) (od : Obj) (kvs : List (Int × Value)) (m n : Nat) (dd : Nat → Nat → Int) (rt : Bool) (bd : Int) (tm tn tb : Tok) (H : Heap) (hP : H.get? P = some od) (hod : od.IsDictOf (intKind prog w) kvs) (hm : m ≤ 200) (hn : n ≤ 40)
    (hv : m ≤ 40 → ∀ i j, i ≤ m → j ≤ n → ∃ t, valueAt kvs ((i * (n + 1) + j : Nat) : Int) = some (.int (dd i j) t)) :
    Spec prog w p loose mean mg mb 68 [.ref P, .int (m : Int) tm, .int (n : Int) tn, .bool rt, .int bd tb] H (fun v new => (∃ z t, v = .int z t ∧ Ans dd m n rt bd z) ∧ new = []) 2 := by
  refine Spec.enterC (f := 68) (by k_is) (by k_is) (fun s => BindsTo.of_eq rfl) rfl rfl rfl rfl (by decide) (by decide) ?_
  intro dp un gd outer A₀ base L' h₁ s tk cells B F N Y X T hdp hun
  k_fold
  k_cells Y
  k_steps
  · refine Out.ret (by assumption) (by assumption) (new := []) (fun q hq => nomatch hq) ⟨⟨_, _, rfl, fun _ => rfl, fun _ _ _ => by omega, fun _ _ _ => by omega, fun _ _ _ => by omega⟩, rfl⟩
  · refine Out.ret (by assumption) (by assumption) (new := []) (fun q hq => nomatch hq) ⟨⟨_, _, rfl, fun _ => rfl, fun _ _ _ => by omega, fun _ _ _ => by omega, fun _ _ _ => by omega⟩, rfl⟩
  · refine Out.ret (by assumption) (by assumption) (new := []) (fun q hq => nomatch hq) ⟨⟨_, _, rfl, fun _ => by omega, fun _ _ _ => rfl, fun _ _ _ => by omega, fun _ _ _ => by omega⟩, rfl⟩
  · unfold Hold
    refine Assign_cell (F₀ := by assumption) (by rfl) (by with_unfolding_all rfl) (fun _ _ => rfl) (fun _ => rfl) rfl (by decide) (fun _ _ => rfl) rfl rfl ?_
    k_steps
    unfold Hold
    have hv' := hv (by omega)
    refine ⟨_, 1, _, _, _, _, n, fun k => mn (fun i => dd i k.toNat) m, _, rfl, rfl, by assumption, by assumption, by assumption, (range_fits1 (by omega)).1, (range_fits1 (by omega)).2, (by rw [PySem.sizeLine_eq]; omega), fun gh => ?_, ?_⟩
    · intro k t I oI C oC c oc D ys h tk E' hk hk' hoc F9 N9
      k_steps
      unfold Hold
      refine LCg.CompSrc.range rfl (by assumption) (by assumption) (by assumption) (range_fits1 (by omega)).1 (range_fits1 (by omega)).2 (by rw [PySem.sizeLine_eq]; omega) ?_
      intro g'
      refine kcf_range (fun i => dd i.toNat k.toNat) (fun k1 t1 I1 oI1 C1 oC1 D1 m1 ys1 h1 tk1 E1 hka hkb hC1 hx1 F1 N1 off1 ne1 _ => ?_) ?_
      · k_steps
        unfold Hold
        exact kcf_el rfl rfl rfl
      · unfold KPfDone
        intro ys1 hys1 D1 h1 tk1 F1 N1 off1
        k_steps
        unfold Hold
        exact CellEnd.intro (by assumption) (by assumption) (fun p hp => List.mem_cons_of_mem _ hp) (mn_range (fun i => dd i k.toNat) (by omega) (by assumption) (by assumption))
    · intro D ys h tk hys F9 N9
      k_steps
      · refine Out.ret (by assumption) (by assumption) (new := []) (fun q hq => nomatch hq) ⟨⟨_, _, rfl, ans_hi (by assumption) (by assumption) (by omega) ((far_true (by assumption)).mpr ((line_far dd (by omega) (by assumption) (by assumption)).mp (by assumption)))⟩, rfl⟩
      · refine Out.ret (by assumption) (by assumption) (new := []) (fun q hq => nomatch hq) ⟨⟨_, _, rfl, ans_lo (by assumption) (by assumption) (by omega) (fun hf => absurd ((line_far dd (by omega) (by assumption) (by assumption)).mpr ((far_true (by assumption)).mp hf)) (by assumption))⟩, rfl⟩
  · unfold Hold
    refine Assign_cell (F₀ := by assumption) (by rfl) (by with_unfolding_all rfl) (fun _ _ => rfl) (fun _ => rfl) rfl (by decide) (fun _ _ => rfl) rfl rfl ?_
    k_steps
    unfold Hold
    have hv' := hv (by omega)
    refine ⟨_, 1, _, _, _, _, m, fun k => mn (fun i => dd k.toNat i) n, _, rfl, rfl, by assumption, by assumption, by assumption, (range_fits1 (by omega)).1, (range_fits1 (by omega)).2, (by rw [PySem.sizeLine_eq]; omega), fun gh => ?_, ?_⟩
    · intro k t I oI C oC c oc D ys h tk E' hk hk' hoc F9 N9
      k_steps
      unfold Hold
      refine LCg.CompSrc.range rfl (by assumption) (by assumption) (by assumption) (range_fits1 (by omega)).1 (range_fits1 (by omega)).2 (by rw [PySem.sizeLine_eq]; omega) ?_
      intro g'
      refine kcf_range (fun i => dd k.toNat i.toNat) (fun k1 t1 I1 oI1 C1 oC1 D1 m1 ys1 h1 tk1 E1 hka hkb hC1 hx1 F1 N1 off1 ne1 _ => ?_) ?_
      · k_steps
        unfold Hold
        exact kcf_el rfl rfl rfl
      · unfold KPfDone
        intro ys1 hys1 D1 h1 tk1 F1 N1 off1
        k_steps
        unfold Hold
        exact CellEnd.intro (by assumption) (by assumption) (fun p hp => List.mem_cons_of_mem _ hp) (mn_range (fun i => dd k.toNat i) (by omega) (by assumption) (by assumption))
    · intro D ys h tk hys F9 N9
      k_steps
      · refine Out.ret (by assumption) (by assumption) (new := []) (fun q hq => nomatch hq) ⟨⟨_, _, rfl, ans_hi (by assumption) (by assumption) (by omega) ((far_false (by assumption)).mpr ((line_far (fun i j => dd j i) (by omega) (by assumption) (by assumption)).mp (by assumption)))⟩, rfl⟩
      · refine Out.ret (by assumption) (by assumption) (new := []) (fun q hq => nomatch hq) ⟨⟨_, _, rfl, ans_lo (by assumption) (by assumption) (by omega) (fun hf => absurd ((line_far (fun i j => dd j i) (by omega) (by assumption) (by assumption)).mpr ((far_false (by assumption)).mp hf)) (by assumption))⟩, rfl⟩

end
end Mine

-- Texts
theorem Mine.freshTexts : True := by
  w_top off
  trivial
namespace Mine
inductive Two (R : Int → Value → Prop) : List Int → List Value → Prop
  | nil : Two R [] []
  | cons {k y ks ys} : R k y → Two R ks ys → Two R (k :: ks) (y :: ys)
theorem Two.snoc {R : Int → Value → Prop} {ks : List Int} {ys : List Value} {k : Int} {y : Value} (h : Two R ks ys) (r : R k y) : Two R (ks ++ [k]) (ys ++ [y]) := by
  induction h with
  | nil => exact .cons r .nil
  | cons a _ ih => exact .cons a ih
section
variable {prog : Program} {w : World} {A : Around} {h₀ : Heap} {L : Addr} {m : Str → Option Value} {env : Env} {elt : Expr} {x : Str} {scope : Scope} {cl : List (Str × Addr)} {s : Shared} {S : List (Addr × Obj) → Prop} {P : Nat → Value → Prop} {Fin : List Value → List (Addr × Obj) → Prop} {news : List (Addr × Obj)}
theorem gcf_rest {n : Nat} {ks : List Int} (R : Int → Value → Prop) (hks : ks.length = n) (hP : ∀ i v, i < n → P i v → ∃ k t, ks[i]? = some k ∧ v = .int k t)
    (turn : ∀ k t I oI C oC D m₂ ys h tk (E' : Value → Shared → Prop), k ∈ ks → LCg.NsObj oC m₂ → m₂ x = some (.int k t) → Fr h₀ L h m → News h₀ L h ((I, oI) :: (C, oC) :: (D, LCg.lst ys) :: news) → LCg.Off3 I C D news → ((@Ne Nat I C) ∧ (@Ne Nat I D) ∧ (@Ne Nat C D)) →
      wpAny (model prog w) A (eval elt (compEnvC scope cl C env)) (LCg.CompEnd h₀ L m { s with heap := h, toks := tk } I oI C oC D (LCg.lst ys) S (fun y news' => news' = news ∧ R k y)) E' { s with heap := h, toks := tk })
    (fin : ∀ ys, Two R ks ys → Fin ys news) : LCg.CompRest prog w A h₀ L m env elt x scope cl s S P Fin n 0 [] news := by
  have key : ∀ (j i : Nat) (ys : List Value), i + j = n → Two R (ks.take i) ys → LCg.CompRest prog w A h₀ L m env elt x scope cl s S P Fin j i ys news := by
    intro j
    induction j with
    | zero =>
      intro i ys hi hy
      have e : i = ks.length := by omega
      subst e
      rw [List.take_length] at hy
      exact LCg.CompRest.zero (fin ys hy)
    | succ j ih =>
      intro i ys hi hy
      refine LCg.CompRest.succ ?_
      intro v I oI C oC D m₂ h tk E' hv hC hx F N off ne
      obtain ⟨k, t, hk, hv'⟩ := hP i v (by omega) hv
      rw [hv'] at hx
      refine wpAny_mono (turn k t I oI C oC D m₂ ys h tk E' (List.mem_of_getElem? hk) hC hx F N off ne) (fun y s₂ hq => ?_) fun _ _ e => e
      obtain ⟨h', tk', nw, e, F', N', off', hS, hn, hR⟩ := hq
      subst hn
      refine ⟨h', tk', _, e, F', N', off', hS, ?_⟩
      refine ih (i + 1) _ (by omega) ?_
      rw [List.take_add_one, hk]
      exact hy.snoc hR
  exact key n 0 [] (by omega) (by simp only [List.take_zero]; exact .nil)
theorem gcf_list {vs : List Value} {ns : List Int} (R : Int → Value → Prop) (hi : IntsAre vs ns)
    (turn : ∀ k t I oI C oC D m₂ ys h tk (E' : Value → Shared → Prop), k ∈ ns → LCg.NsObj oC m₂ → m₂ x = some (.int k t) → Fr h₀ L h m → News h₀ L h ((I, oI) :: (C, oC) :: (D, LCg.lst ys) :: news) → LCg.Off3 I C D news → ((@Ne Nat I C) ∧ (@Ne Nat I D) ∧ (@Ne Nat C D)) →
      wpAny (model prog w) A (eval elt (compEnvC scope cl C env)) (LCg.CompEnd h₀ L m { s with heap := h, toks := tk } I oI C oC D (LCg.lst ys) S (fun y news' => news' = news ∧ R k y)) E' { s with heap := h, toks := tk })
    (fin : ∀ ys, Two R ns ys → Fin ys news) : LCg.CompRest prog w A h₀ L m env elt x scope cl s S (fun i v => vs.toArray[i]? = some v) Fin vs.toArray.size 0 [] news :=
  gcf_rest (ks := ns) R (by rw [List.size_toArray]; exact hi.length.symm) (fun i v _ hv => by
    obtain ⟨k, t, e, hk⟩ := IntsAre.at hi i v (by simpa using hv)
    exact ⟨k, t, hk, e⟩) turn fin
theorem gcf_range {n : Nat} {a : Int} (R : Int → Value → Prop)
    (turn : ∀ k t I oI C oC D m₂ ys h tk (E' : Value → Shared → Prop), k ∈ rangeKs a n → LCg.NsObj oC m₂ → m₂ x = some (.int k t) → Fr h₀ L h m → News h₀ L h ((I, oI) :: (C, oC) :: (D, LCg.lst ys) :: news) → LCg.Off3 I C D news → ((@Ne Nat I C) ∧ (@Ne Nat I D) ∧ (@Ne Nat C D)) →
      wpAny (model prog w) A (eval elt (compEnvC scope cl C env)) (LCg.CompEnd h₀ L m { s with heap := h, toks := tk } I oI C oC D (LCg.lst ys) S (fun y news' => news' = news ∧ R k y)) E' { s with heap := h, toks := tk })
    (fin : ∀ ys, Two R (rangeKs a n) ys → Fin ys news) : LCg.CompRest prog w A h₀ L m env elt x scope cl s S (fun i v => ∃ t, v = .int (a + (i : Int)) t) Fin n 0 [] news :=
  gcf_rest (ks := rangeKs a n) R (rangeKs_length a n) (fun i v hi hv => by
    obtain ⟨t, e⟩ := hv
    exact ⟨a + (i : Int), t, by simp [rangeKs, hi], e⟩) turn fin
end
def IsChr (k : Int) (y : Value) : Prop := ∃ t, y = .str (chrS k) t
theorem two_chr {ns : List Int} {ys : List Value} (h : Two IsChr ns ys) : StrsAre ys (ns.map chrS) := by
  induction h with
  | nil => exact .nil
  | cons r _ ih => obtain ⟨t, rfl⟩ := r; exact .cons _ t ih
theorem join_chr : ∀ ns : List Int, Txt.join (Str.ofString "") (ns.map chrS) = strOf ns := by
  have e : Str.ofString "" = Str.empty := by decide
  have key : ∀ ns : List Int, Str.join Str.empty (ns.map chrS) = strOf ns := by
    intro ns
    induction ns with
    | nil => rfl
    | cons a r ih =>
      cases r with
      | nil => rfl
      | cons b r =>
        show chrS a ++ Str.empty ++ Str.join Str.empty ((b :: r).map chrS) = _
        rw [ih]
        show (⟨(#[a.toNat] ++ #[]) ++ _⟩ : Str) = ⟨_⟩
        congr 1
        simp [strOf]
  intro ns
  rw [eq_of_beq (join_plain_closes (Str.ofString "") (ns.map chrS)), e]
  exact key ns
theorem sum_chr (ns : List Int) : ((ns.map chrS).map (·.length)).sum = ns.length := by
  induction ns with
  | nil => rfl
  | cons a r ih => simp only [List.map_cons, List.sum_cons, ih, List.length_cons]; show 1 + _ = _; omega
theorem join_chrs {prog : Program} {w : World} {A : Around} {E : Value → Shared → Prop} {s : Shared} {h₀ : Heap} {L D : Addr} {news : List (Addr × Obj)} {ys : List Value} {ns : List Int} {t : Tok} {Q : Value → Shared → Prop} (N : News h₀ L s.heap news) (hm : (D, LCg.lst ys) ∈ news) (hi : Two IsChr ns ys) (hz : ns.length ≤ 200)
    (h : ∀ t' k, Q (.str (strOf ns) t') { s with toks := k }) : wpAny (model prog w) A (call (.builtin "str.join") [.str (Str.ofString "") t, .ref D]) Q E s := by
  refine join_listW (lst_at N hm) (ys := ns.map chrS) (two_chr hi) (by decide) (by rw [sum_chr, List.length_map]; omega) fun t' k => ?_
  rw [join_chr]; exact h t' k
end Mine
namespace Mine
section
variable {prog : Program} {w : World} {A : Around} {E : Value → Shared → Prop} {s : Shared} {h₀ : Heap} {L D P : Addr} {mm : Str → Option Value} {news : List (Addr × Obj)} {ys : List Value} {ns : List Int} {n : Nat} {od : Obj} {kvs : List (Int × Value)}
theorem listOf_at {h : Heap} (N : News h₀ L h news) (hm : (D, W.listOf ys.toArray n) ∈ news) : h.IsList D ys.toArray := ⟨_, (N _ hm).1, rfl, _, rfl⟩
theorem sum_made {Q : Value → Shared → Prop} (hh : A.handled = none) (F : Fr h₀ L s.heap mm) (N : News h₀ L s.heap news) (hm : (D, W.listOf ys.toArray n) ∈ news) (hi : IntsAre ys ns)
    (h : ∀ h' tk t', Fr h₀ L h' mm → News h₀ L h' news → Q (.int ns.sum t') { s with heap := h', toks := tk }) : wpAny (model prog w) A (call (.builtin "sum") [.ref D]) Q E s := by
  have hl := listOf_at N hm
  obtain ⟨xs, hx⟩ := hi.allInts.items
  have hn : numsOf ys.toArray.toList = ns := by rw [show ys.toArray.toList = ys from rfl, hi.numsOf]
  rw [hx] at hl hn
  rw [nums_intItems] at hn
  refine sum_intListG hh hl fun h' tk t' hk => ?_
  have := h h' tk t' (F.keeps hk) (N.grown hk)
  rw [preSum_eq, List.take_of_length_le (by simp), hn]
  exact this
theorem price_meth {pl : Sem Bool} {Q : Value × List Value → Shared → Prop} (N : News h₀ L s.heap news) (hm : (P, od) ∈ news) (hod : od.IsDictOf (intKind prog w) kvs) (h : Q (.builtin "dict.get", [.ref P]) s) : wpAny (model prog w) A (getMethod (.ref P) (Str.ofString "get") pl) Q E s :=
  kdg_method N hm hod h
theorem price_get {k d : Int} {t u : Tok} {Q : Value → Shared → Prop} (N : News h₀ L s.heap news) (hm : (P, od) ∈ news) (hod : od.IsDictOf (intKind prog w) kvs) (hsys : (P == sysModules) = false)
    (hk : valueAt kvs k = none ∨ ∃ z t, valueAt kvs k = some (.int z t)) (h : ∀ z t tk, Q (.int z t) { s with toks := tk }) : wpAny (model prog w) A (call (.builtin "dict.get") [.ref P, .int k t, .int d u]) Q E s := by
  refine kdg_get2 N hm hod hsys (intKind_is prog w k t) _ rfl ?_
  rcases hk with e | ⟨z, t', e⟩
  · rw [e]; exact h _ _ _
  · rw [e]; exact h _ _ _
end
end Mine
namespace Mine
section
variable {prog : Program} {w : World} {A : Around} {E : Value → Shared → Prop} {s : Shared} {h₀ : Heap} {L D : Addr} {mm : Str → Option Value} {news : List (Addr × Obj)} {ys : List Value} {ns : List Int} {n : Nat}
theorem item_led {value slice : Expr} {i : Nat} {u : Tok} {Q : Value → Shared → Prop} (N : News h₀ L s.heap news) (hm : (D, W.listOf ys.toArray n) ∈ news) (hi : IntsAre ys ns) (hk : i < ns.length) (hz : ns.length ≤ 1000) (h : ∀ t, Q (.int (ns.getD i 0) t) s)
    (hs : subscripted slice false (.ref D) (.int (i : Int) u) = operate [.ref D, .int (i : Int) u] (getItem (.ref D) (.int (i : Int) u)) := by with_unfolding_all rfl) :
    wpAny (model prog w) A (subscriptTail value slice (.ref D) (.int (i : Int) u)) Q E s := by
  have hL : s.heap.IsList D ys.toArray := listOf_at N hm
  obtain ⟨t, ht⟩ := hi.get i (ns.getD i 0) (by simp [hk])
  refine tail_any hL.typeIs slot_list_getitem.lookup (wpAny_getItem_list hL (by omega) (by omega) ?_ (h t)) hs
  rw [Int.toNat_natCast]
  simpa using ht
end
def IsTrue (_ : Int) (y : Value) : Prop := y = .bool true
end Mine
namespace Mine
theorem two_true {ks : List Int} {ys : List Value} (h : Two IsTrue ks ys) : LSm.BoolsAre ys (ks.map fun _ => true) := by
  induction h with
  | nil => exact .nil
  | cons r _ ih => cases r; exact .cons _ ih
theorem all_made {prog : Program} {w : World} {A : Around} {E : Value → Shared → Prop} {s : Shared} {h₀ : Heap} {L D : Addr} {mm : Str → Option Value} {news : List (Addr × Obj)} {ys : List Value} {ks : List Int} {Q : Value → Shared → Prop} (hh : A.handled = none) (F : Fr h₀ L s.heap mm) (N : News h₀ L s.heap news) (hm : (D, LCg.lst ys) ∈ news) (hb : Two IsTrue ks ys)
    (h : ∀ h' tk, Fr h₀ L h' mm → News h₀ L h' news → Q (.bool true) { s with heap := h', toks := tk }) : wpAny (model prog w) A (call (.builtin "all") [.ref D]) Q E s := by
  refine LSm.all_bools F N hh (lst_at N hm) (two_true hb) fun h' tk F' N' => ?_
  have e : (ks.map fun _ => true).all id = true := by simp
  rw [e]; exact h h' tk F' N'
end Mine

-- Wlaw
theorem Mine.freshWlaw : True := by
  w_top off
  trivial
namespace Mine
theorem sg_range {x : Int} (h : Sg x) : 0 ≤ x ∧ x ≤ 1114111 := by unfold Sg at h; omega
theorem key_known {c : Nat → Nat → Int} {m n : Nat} {kvs : List (Int × Value)} {k : Int} (hlong : 40 < m → kvs = []) (hpr : m ≤ 40 → ∀ i j, i ≤ m → j ≤ n → ∃ t, valueAt kvs ((i * (n + 1) + j : Nat) : Int) = some (.int (D c i j) t)) (e : k = (m : Int) * ((n : Int) + 1) + n) :
    valueAt kvs k = none ∨ ∃ z t, valueAt kvs k = some (.int z t) := by
  by_cases h : 40 < m
  · left; rw [hlong h]; rfl
  · right
    obtain ⟨t, ht⟩ := hpr (by omega) m n (Nat.le_refl _) (Nat.le_refl _)
    refine ⟨D c m n, t, ?_⟩
    rw [← ht, e]
    congr 1
theorem getD_in {l : List Int} {i : Nat} (h : i < l.length) : l.getD i 0 ∈ l := by rw [List.getD_eq_getElem?_getD, List.getElem?_eq_getElem h]; exact List.getElem_mem h
theorem cut_ret {M : Model} {A : Around} {E : Value → Shared → Prop} {s : Shared} {t : Sem Flow} {Q : Flow → Shared → Prop} {H : Heap} {L : Addr} {m : Str → Option Value} (_ : Fr H L s.heap m) (h1 : wpAny M A t (Out H (fun v _ => v = .bool true) s) (fun _ _ => False) s)
    (h2 : ∀ h' tk' L' m', Fr H L' h' m' → Q (.ret (.bool true)) { s with heap := h', toks := tk' }) : wpAny M A t Q E s := by
  refine wpAny_mono h1 (fun fl s' h => ?_) fun _ _ x => x.elim
  obtain ⟨L', m', new, h', tk', rfl, F, _, hv⟩ := h
  cases fl with
  | ret v => cases hv; exact h2 h' tk' L' m' F
  | next => cases hv
  | brk => cases hv
  | cont => cases hv
/-- a contract at a call, with the new things told apart from the old -/
theorem Spec.useN {prog : Program} {w : World} {p : Program} {loose : List Str} {mean : ExcName → Option Value} {mg mb : Str → Option Value} {f : Addr} {vs : List Value} {R : Value → List (Addr × Obj) → Prop} {deep : Nat} {dp un : Nat} {gd : Option (List Code)} {cn : Str} {cs : Scope} {a : Addr} {ccd : Value} {cl : List (Str × Addr)} {outer : List Env} {A₀ : Around} {base h₀ : Heap} {L : Addr} {m : Str → Option Value} {s : Shared} {Q E : Value → Shared → Prop} {news : List (Addr × Obj)}
    (S : Spec prog w p loose mean mg mb f vs s.heap R deep) (B : Below A₀ base outer h₀) (F : Fr h₀ L s.heap m) (X : (hd.heap_39 w.params).In h₀) (N : News h₀ L s.heap news) (T : Top p loose mean mg mb h₀) (hk : cs.kind = .function) (hd : dp + deep < 500) (hu : un + 20 * deep < 5000)
    (k : ∀ v h' tk' new, Fr h₀ L h' m → News h₀ L h' (new ++ news) → (∀ q ∈ new, ∀ p ∈ news, @Ne Nat q.1 p.1) → R v new → Q v { s with heap := h', toks := tk' }) :
    wpAny (model prog w) (ktrTop dp un gd cn cs L a ccd cl outer) (call (.ref f) vs) Q E s :=
  S _ _ _ _ _ _ _ _ _ _ _ _ _ _ s Q E rfl B F X T hk hd hu fun v h' tk' new h1 h2 h3 => k v h' tk' new (fr_stay F h1) (news_stay F N h1 h2) (fun q hq p hp e => by
    have z1 := (h2 q hq).2
    have z2 := (N p hp).1
    have e' : q.1 = p.1 := e
    rw [e', z2] at z1; cases z1) h3
local macro_rules | `(tactic| walk_at "CompSrc") => `(tactic| (refine Hold.out ?_))
local macro_rules | `(tactic| walk_at "CompEnd") => `(tactic| (refine Hold.out ?_))
local macro_rules | `(tactic| walk_at "call builtin:str.join") => `(tactic| ((with_reducible show wpAny _ _ (PySem.call (Value.builtin _) [Value.str _ _, Value.ref _]) _ _ _); k_dflt (refine' join_chrs ?k1 ?k2 ?k3 ?k4 ?_; (case k1 => k_asm); (case k2 => exact List.Mem.head _); (case k3 => assumption); (case k4 => omega); k_whole); intro t' tk'))
local macro_rules | `(tactic| k_ne) => `(tactic| (refine neN ?_; (try dsimp only); first | with_reducible assumption | (apply Ne.symm; with_reducible assumption) | omega))
local macro_rules | `(tactic| walk_at "call builtin:dict.get") => `(tactic| (refine Hold.out ?_))
local macro_rules | `(tactic| walk_at "call builtin:sum") => `(tactic| ((with_reducible show wpAny _ _ (PySem.call (Value.builtin _) [Value.ref _]) _ _ _); k_dflt (refine' sum_made ?k0 ?k1 ?k2 ?k3 ?k4 ?_; (case k0 => exact rfl); (case k1 => k_asm); (case k2 => k_asm); (case k3 => k_mem); (case k4 => assumption); k_whole); intro h' tk' t' F' N'))
local macro_rules | `(tactic| walk_at "getMethod ref") => `(tactic| ((with_reducible show wpAny _ _ (getMethod (Value.ref _) (Str.ofString "get") _) _ _ _); k_dflt (refine' price_meth ?k1 ?k2 ?k3 ?_; (case k1 => k_asm); (case k2 => k_mem); (case k3 => assumption); k_whole)))
local macro_rules | `(tactic| walk_at "call builtin:all") => `(tactic| ((with_reducible show wpAny _ _ (PySem.call (Value.builtin _) [Value.ref _]) _ _ _); k_dflt (refine' all_made ?k0 ?k1 ?k2 ?k3 ?k4 ?_; (case k0 => exact rfl); (case k1 => k_asm); (case k2 => k_asm); (case k3 => exact List.Mem.head _); (case k4 => assumption); k_whole); intro h' tk' F' N'))
local macro_rules | `(tactic| walk_at "subscriptTail Name Name str int") => `(tactic| ((with_reducible show wpAny _ _ (subscriptTail _ _ (Value.str (strOf _) _) (Value.int (Nat.cast _) _)) _ _ _); k_dflt (refine' sub_item ?k3 ?k4 ?_; (case k3 => omega); (case k4 => omega); k_whole)))
local macro_rules | `(tactic| walk_at "subscriptTail Name Name ref int") => `(tactic| ((with_reducible show wpAny _ _ (subscriptTail _ _ (Value.ref _) (Value.int (Nat.cast _) _)) _ _ _); k_dflt (refine' item_led ?k1 ?k2 ?k3 ?k4 ?k5 ?_; (case k1 => k_asm); (case k2 => k_mem); (case k3 => assumption); (case k4 => omega); (case k5 => omega); k_whole); intro t'))
local macro_rules | `(tactic| walk_at "eval Call") => `(tactic| ((with_reducible show wpAny _ _ (eval (Expr.Call (Expr.Name _ _) [Expr.Subscript _ _ _, Expr.Subscript _ _ _] [] _) _) _ _ _); k_dflt (refine Call_ ?_)))
local macro_rules | `(tactic| walk_at "call ref") => `(tactic| (refine Hold.out ?_))
set_option maxRecDepth 100000 in
set_option maxHeartbeats 2000000 in
theorem t3 : PySem.Challenge.rw_ki0100_01.Holds := hd (by
  w_strict (k_go0; (all_goals try k_fold))
  refine cut_ret (by assumption) ?_ ?_
  · rename_i w s₀ s₁ mg mb G Y fa o pm doc ho hg KX X V GL T Bt TE TW w13 w12 M w11 w10 hcd ns hs hlay0 hL1 hr1 hl2 w8 w7 l vs w4 hL ra w1 r0 hI hr hcond hcond' K0 hD h₁ tk₁ F c3 c2 c1 c0 d3 d2 d1 d0 N0 X0
    have h63 : ns.length ≤ 63 := by omega
    clear X0 hD hcond hcond' hr r0 w1 ra hl2 hr1 hL1 hlay0 hs hcd M TW TE Bt GL V X ho G Y
    clear qk ek
    replace K0 : Below callerA s₁.heap [] s₁.heap := K0
    show wpAny _ (ktrTop _ _ _ _ _ _ _ _ _ []) _ _ _ _
    k_fold
    k_steps
    unfold Hold
    rename_i Dt ws _ hIt hCt hLt _ hh1 F1 N1
    refine Spec.useN (words_call Dt ws (ns.take 8) _ (listOf_at N1 (List.Mem.head _)) hIt (by omega)) K0 F1 KX N1 T rfl (by decide) (by decide) ?_
    rintro v h2 tk2 new2 F2 N2 ne2 ⟨Tt, a1, b1, va, vb, na, nb, nt, one, two, rfl, rfl, hia, hib, hsa, hsb, hla, hlb⟩
    simp only [List.cons_append, List.nil_append] at N2
    simp only [List.forall_mem_cons, List.not_mem_nil, false_implies, implies_true, and_true] at ne2
    obtain ⟨⟨n1, n2, n3, n4, n5⟩, ⟨n6, n7, n8, n9, n10⟩, ⟨n11, n12, n13, n14, n15⟩⟩ := ne2
    k_steps
    unfold Hold
    refine LCg.CompSrc.ledger rfl (by assumption) (by assumption) (by k_mem) (by rw [PySem.sizeLine_eq, List.size_toArray, hia.length]; omega) ?_
    intro g'
    refine gcf_list IsChr hia (fun k1 t1 I1 oI1 C1 oC1 D1 m1 ys1 h1 tk1 E1 hk1 hC1 hx1 F1 N1 off1 ne1 => ?_) ?_
    · have hs1 := sg_range (hsa k1 hk1)
      k_steps
      unfold Hold
      exact LCg.CompEnd.intro F1 N1 _ (fun p hp => hp) off1 (.inr ⟨_, by k_mem, rfl, _, rfl⟩) ⟨rfl, _, rfl⟩
    intro ys1 hys1 D1 h1 tk1 F1 N1 off1
    simp only [LCg.Off1, and_true] at off1
    obtain ⟨p1, p2, p3, p4, p5, p6, p7, p8⟩ := off1
    k_steps
    unfold Hold
    refine LCg.CompSrc.ledger rfl (by assumption) (by assumption) (by k_mem) (by rw [PySem.sizeLine_eq, List.size_toArray, hib.length]; omega) ?_
    intro g'
    refine gcf_list IsChr hib (fun k1 t1 I1 oI1 C1 oC1 D1 m1 ys1 h1 tk1 E1 hk1 hC1 hx1 F1 N1 off1 ne1 => ?_) ?_
    · have hs1 := sg_range (hsb k1 hk1)
      k_steps
      unfold Hold
      exact LCg.CompEnd.intro F1 N1 _ (fun p hp => hp) off1 (.inr ⟨_, by k_mem, rfl, _, rfl⟩) ⟨rfl, _, rfl⟩
    intro ys2 hys2 D2 h2 tk2 F2 N2 off2
    simp only [LCg.Off1, and_true] at off2
    obtain ⟨q1, q2, q3, q4, q5, q6, q7, q8, q9⟩ := off2
    k_steps
    clear n1 n2 n3 n4 n5 n6 n7 n8 n9 n10 n11 n12 n13 n14 n15 p1 p2 p3 p4 p5 p6 p7 p8 q1 q2 q3 q4 q5 q6 q7 q8 q9
    unfold Hold
    rename_i tS _ _ oS F3 N3 dS
    refine Spec.use (middles_call a1 b1 va vb one two _ (listOf_at N3 (by k_mem)) (listOf_at N3 (by k_mem)) hia hib (by omega) (by omega)) K0 F3 KX N3 T rfl (by decide) (by decide) ?_
    rintro v h4 tk4 new4 F4 N4 ⟨T4, l4, r4, vl, vr, nl, nr, nt4, rfl, rfl, hil, hir⟩
    simp only [List.cons_append, List.nil_append] at N4
    have hml := midL_len one two
    have hmr := midR_len one two
    k_steps
    unfold Hold
    rename_i F5 N5
    refine Spec.use (prices_call l4 r4 vl vr (midL one two) (midR one two) _ (listOf_at N5 (by k_mem)) (listOf_at N5 (by k_mem)) hil hir (by omega) (by omega)) K0 F5 KX N5 T rfl (by decide) (by decide) ?_
    rintro v h6 tk6 new6 F6 N6 ⟨P, od, kvs, rfl, rfl, hod, hsys, hlong, hpr⟩
    simp only [List.cons_append, List.nil_append] at N6
    k_steps
    unfold Hold
    refine price_get (by assumption) (by k_mem) hod hsys (key_known hlong hpr rfl) ?_
    intro near tnear tk7
    k_steps
    unfold Hold
    rename_i F7 N7
    refine Spec.use (lev_call one two _ _ _ _ _ hsa hsb (by omega) (by omega)) K0 F7 KX N7 T rfl (by decide) (by decide) ?_
    rintro v h8 tk8 new8 F8 N8 ⟨⟨t8, rfl⟩, rfl⟩
    simp only [List.nil_append] at N8
    k_steps
    unfold Hold
    refine Spec.use (answer_call P od kvs (midL one two).length (midR one two).length (D (cst (midR one two) (midL one two))) _ _ _ _ _ _ (N8 _ (by k_mem)).1 hod (by omega) (by omega) hpr) K0 F8 KX N8 T rfl (by decide) (by decide) ?_
    rintro v h9 tk9 new9 F9 N9 ⟨⟨z9, t9, rfl, hA9⟩, rfl⟩
    simp only [List.nil_append] at N9
    have e9 := lev_one one two _ z9 _ (decide_eq_decide.mpr (by omega)) (by omega) hA9
    subst e9
    k_steps
    · exact absurd rfl (by assumption)
    unfold Hold
    refine Spec.use (lev_call two one _ _ _ _ _ hsb hsa (by omega) (by omega)) K0 F9 KX N9 T rfl (by decide) (by decide) ?_
    clear F9 N9 hA9 F8 N8
    rintro v h8 tk8 new8 F8 N8 ⟨⟨t8, rfl⟩, rfl⟩
    simp only [List.nil_append] at N8
    k_steps
    unfold Hold
    refine Spec.use (answer_call P od kvs (midL one two).length (midR one two).length (D (cst (midR one two) (midL one two))) _ _ _ _ _ _ (N8 _ (by k_mem)).1 hod (by omega) (by omega) hpr) K0 F8 KX N8 T rfl (by decide) (by decide) ?_
    rintro v h9 tk9 new9 F9 N9 ⟨⟨z9, t9, rfl, hA9⟩, rfl⟩
    simp only [List.nil_append] at N9
    have e9 := lev_two one two _ z9 _ (decide_eq_decide.mpr (by omega)) (by omega) hA9
    subst e9
    k_steps
    · exact absurd rfl (by assumption)
    unfold Hold
    refine Spec.use (lev_call one two _ _ _ _ _ hsa hsb (by omega) (by omega)) K0 F9 KX N9 T rfl (by decide) (by decide) ?_
    clear F9 N9 hA9 F8 N8
    rintro v h8 tk8 new8 F8 N8 ⟨⟨t8, rfl⟩, rfl⟩
    simp only [List.nil_append] at N8
    k_steps
    unfold Hold
    refine Spec.use (answer_call P od kvs (midL one two).length (midR one two).length (D (cst (midR one two) (midL one two))) _ _ _ _ _ _ (N8 _ (by k_mem)).1 hod (by omega) (by omega) hpr) K0 F8 KX N8 T rfl (by decide) (by decide) ?_
    rintro v h9 tk9 new9 F9 N9 ⟨⟨z9, t9, rfl, hA9⟩, rfl⟩
    simp only [List.nil_append] at N9
    have e9 := lev_one one two _ z9 _ (decide_eq_decide.mpr (by omega)) (by omega) hA9
    subst e9
    k_steps
    · exact absurd rfl (by assumption)
    unfold Hold
    clear hA9
    have hmin : (if (two.length : Int) < one.length then (two.length : Int) else one.length) = ((min one.length two.length : Nat) : Int) := by split <;> omega
    refine LCg.CompSrc.range rfl (by assumption) (by assumption) (by assumption) (range_fits hmin (by omega)).1 (range_fits hmin (by omega)).2 (by rw [PySem.sizeLine_eq]; omega) ?_
    intro g'
    refine gcf_range IsTrue (fun k1 t1 I1 oI1 C1 oC1 D1 m1 ys1 h1 tk1 E1 hk1 hC1 hx1 F1 N1 off1 ne1 => ?_) ?_
    · have hb1 := mem_rangeKs hk1
      obtain ⟨i, rfl⟩ := Int.eq_ofNat_of_zero_le hb1.1
      have hi1 : i < one.length := by omega
      have hi2 : i < two.length := by omega
      clear hk1 hb1 hmin
      k_steps
      unfold Hold
      refine Spec.use (subst_sg (one.getD i 0) (two.getD i 0) (hsa _ (getD_in hi1)) (hsb _ (getD_in hi2)) _ _ _) K0 F1 KX N1 T rfl (by decide) (by decide) ?_
      rintro v h2 tk2 new2 F2 N2 ⟨⟨t2, rfl⟩, rfl⟩
      simp only [List.nil_append] at N2
      k_steps
      unfold Hold
      refine Spec.use (change_call (one.getD i 0) (two.getD i 0) _ _ _) K0 (by assumption) KX (by assumption) T rfl (by decide) (by decide) ?_
      rintro v h3 tk3 new3 F3 N3 ⟨⟨t3, rfl⟩, rfl⟩
      simp only [List.nil_append] at N3
      k_steps
      unfold Hold
      exact LCg.CompEnd.intro (by assumption) (by assumption) _ (fun p hp => hp) off1 trivial ⟨rfl, by simp [IsTrue]⟩
    · intro ys1 hys1 D1 h1 tk1 F1 N1 off1
      k_steps
      exact Out.ret (by assumption) (by assumption) (new := []) (fun q hq => nomatch hq) rfl
  · intro h' tk' L' m' F'
    wrow_close)
end Mine

theorem PySem.Challenge.cw_ki0100_01_holds : PySem.Challenge.rw_ki0100_01.Holds := by
  exact Mine.t3
