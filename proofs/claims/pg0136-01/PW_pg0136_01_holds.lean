import PyProof.Rows.All
import Wide.All
import OpenK.AllK
import Wide.FinOn
import PyProof.GenQ
import PySem.Challenge.RW_pg0136_01
open PySem PySem.W PyProof.Rows
set_option Elab.async false
set_option maxRecDepth 100000
set_option maxHeartbeats 0
set_option rowWalk.seconds 0
section
namespace Mine
open_top hd for PySem.Challenge.rw_pg0136_01
end Mine

end
section
open PySem PySem.W PyProof.Rows
set_option maxRecDepth 100000
set_option maxHeartbeats 0
namespace Mine
noncomputable abbrev PR : Program := PySem.Challenge.rw_pg0136_01.row.prog
noncomputable abbrev KK (w : World) : Frag := hd.heap_39 w.params
noncomputable abbrev VW : Program := hd.view_39
def substP (x y : Str) : Int := if x = y then 0 else if Txt.lower x = Txt.lower y then 1 else 2
theorem subst_claim {w : World} {mg mb : Str → Option Value} {mean : ExcName → Option Value} (x y : Str) (tx ty : Tok) (news : List (Addr × Obj)) (hx : x.length = 1) (hy : y.length = 1) :
    CbClaim PR w (KK w) VW (looseW VW []) mean mg mb 21 news [] True [.str x tx, .str y ty] (fun t => .int (substP x y) t) := by
  w_top off
  dsimp only [CbClaim, CbLists, CbRet, PR, KK, VW]
  k_fill
  intros
  rename_i hret
  refine wpAny_call ?_
  k_dflt cell_enter
  k_steps
  · refine cb_retI hret ?_ (by assumption) (by assumption)
    rename_i h1 _ _
    unfold substP
    simp_all
  · refine cb_retI hret ?_ (by assumption) (by assumption)
    unfold substP
    simp_all
  · refine cb_retI hret ?_ (by assumption) (by assumption)
    unfold substP
    simp_all
end Mine

end
section
open PySem PySem.W PyProof.Rows PySem.Calls PyProof.V PySem.Spec
set_option maxRecDepth 100000
set_option maxHeartbeats 0
namespace Mine
structure Hold (P : Prop) : Prop where
  out : P
@[irreducible] def Halt (P : Prop) : Prop := P
theorem halt {P : Prop} (h : Halt P) : P := by unfold Halt at h; exact h
theorem go {P : Prop} (h : P) : Halt P := by unfold Halt; exact h
theorem fa0 {α : Type} {P : α → Prop} : ∀ p ∈ ([] : List α), P p := by simp
theorem fa1 {α : Type} {P : α → Prop} {a : α} (h1 : P a) : ∀ p ∈ [a], P p := by simpa using h1
theorem fac {α : Type} {P : α → Prop} {a : α} {l : List α} (h1 : P a) (h2 : ∀ p ∈ l, P p) : ∀ p ∈ a :: l, P p := by simpa using ⟨h1, h2⟩
theorem fa2 {α : Type} {P : α → Prop} {a b : α} (h1 : P a) (h2 : P b) : ∀ p ∈ [a, b], P p := by simpa using ⟨h1, h2⟩
theorem fa3 {α : Type} {P : α → Prop} {a b c : α} (h1 : P a) (h2 : P b) (h3 : P c) : ∀ p ∈ [a, b, c], P p := by simpa using ⟨h1, h2, h3⟩
theorem fa4 {α : Type} {P : α → Prop} {a b c d : α} (h1 : P a) (h2 : P b) (h3 : P c) (h4 : P d) : ∀ p ∈ [a, b, c, d], P p := fac h1 (fa3 h2 h3 h4)
theorem fa5 {α : Type} {P : α → Prop} {a b c d e : α} (h1 : P a) (h2 : P b) (h3 : P c) (h4 : P d) (h5 : P e) : ∀ p ∈ [a, b, c, d, e], P p := fac h1 (fa4 h2 h3 h4 h5)
theorem fa6 {α : Type} {P : α → Prop} {a b c d e f : α} (h1 : P a) (h2 : P b) (h3 : P c) (h4 : P d) (h5 : P e) (h6 : P f) : ∀ p ∈ [a, b, c, d, e, f], P p := fac h1 (fa5 h2 h3 h4 h5 h6)
theorem fa7 {α : Type} {P : α → Prop} {a b c d e f g : α} (h1 : P a) (h2 : P b) (h3 : P c) (h4 : P d) (h5 : P e) (h6 : P f) (h7 : P g) : ∀ p ∈ [a, b, c, d, e, f, g], P p := fac h1 (fa6 h2 h3 h4 h5 h6 h7)
theorem fa8 {α : Type} {P : α → Prop} {a b c d e f g i : α} (h1 : P a) (h2 : P b) (h3 : P c) (h4 : P d) (h5 : P e) (h6 : P f) (h7 : P g) (h8 : P i) : ∀ p ∈ [a, b, c, d, e, f, g, i], P p := fac h1 (fa7 h2 h3 h4 h5 h6 h7 h8)

theorem mapIs {m : Str → Option Value} {ps : List (Str × Value)} (h : ∀ p ∈ ps, m p.1 = some p.2) : kstB m ps = m := funext fun _ => kstB_eq h fun _ => rfl
/-- a frame by the names that matter; the rest of it is forgotten -/
theorem forget {h₀ : Heap} {L : Addr} {h : Heap} {m : Str → Option Value} {G : Prop} (F : Fr h₀ L h m) (ps : List (Str × Value)) (hk : ∀ p ∈ ps, m p.1 = some p.2) (rest : ∀ u, Fr h₀ L h (kstB u ps) → G) : G :=
  rest m (by rw [mapIs hk]; exact F)

/-- behind a loop: one state, whatever way it was left -/
@[irreducible] def CutQ {σ : Type} (h₀ : Heap) (L : Addr) (s : Shared) (Led : σ → List (Addr × Obj)) (ps : σ → List (Str × Value)) (P : σ → Prop) (Q : Flow → Shared → Prop) (f : Flow) (s' : Shared) : Prop :=
  match f with
  | .next => ∃ (c : σ) (u : Str → Option Value) (h : Heap) (tk : Nat), P c ∧ s' = { s with heap := h, toks := tk } ∧ Fr h₀ L h (kstB u (ps c)) ∧ News h₀ L h (Led c)
  | f => Q f s'
theorem cut {prog : Program} {w : World} {A : Around} {E : Value → Shared → Prop} {Q : Flow → Shared → Prop} {s : Shared} {h₀ : Heap} {L : Addr} {m : Str → Option Value} {t : Sem Flow}
    {σ : Type} (Led : σ → List (Addr × Obj)) (ps : σ → List (Str × Value)) (P : σ → Prop) (_F : Fr h₀ L s.heap m)
    (loop : wpAny (model prog w) A t (CutQ h₀ L s Led ps P Q) E s)
    (rest : ∀ (c : σ) (u : Str → Option Value) (h : Heap) (tk : Nat), P c → Fr h₀ L h (kstB u (ps c)) → News h₀ L h (Led c) → Q .next { s with heap := h, toks := tk }) :
    wpAny (model prog w) A t Q E s := by
  refine wpAny_mono loop (fun f s' q => ?_) fun _ _ e => e
  unfold CutQ at q
  cases f with
  | next =>
    obtain ⟨c, u, h, tk, hP, rfl, F, N⟩ := q
    exact rest c u h tk hP F N
  | brk => exact q
  | cont => exact q
  | ret v => exact q
/-- the same, where nothing is returned on the way -/
@[irreducible] def CutN {σ : Type} (h₀ : Heap) (L : Addr) (s : Shared) (Led : σ → List (Addr × Obj)) (ps : σ → List (Str × Value)) (P : σ → Prop) (f : Flow) (s' : Shared) : Prop :=
  ∃ (c : σ) (u : Str → Option Value) (h : Heap) (tk : Nat), f = .next ∧ P c ∧ s' = { s with heap := h, toks := tk } ∧ Fr h₀ L h (kstB u (ps c)) ∧ News h₀ L h (Led c)
theorem cutN {prog : Program} {w : World} {A : Around} {E : Value → Shared → Prop} {Q : Flow → Shared → Prop} {s : Shared} {h₀ : Heap} {L : Addr} {m : Str → Option Value} {t : Sem Flow}
    {σ : Type} (Led : σ → List (Addr × Obj)) (ps : σ → List (Str × Value)) (P : σ → Prop) (_F : Fr h₀ L s.heap m)
    (loop : wpAny (model prog w) A t (CutN h₀ L s Led ps P) E s)
    (rest : ∀ (c : σ) (u : Str → Option Value) (h : Heap) (tk : Nat), P c → Fr h₀ L h (kstB u (ps c)) → News h₀ L h (Led c) → Q .next { s with heap := h, toks := tk }) :
    wpAny (model prog w) A t Q E s := by
  refine wpAny_mono loop (fun f s' q => ?_) fun _ _ e => e
  unfold CutN at q
  obtain ⟨c, u, h, tk, rfl, hP, rfl, F, N⟩ := q
  exact rest c u h tk hP F N
theorem cutN_next {σ : Type} {h₀ : Heap} {L : Addr} {s : Shared} {Led : σ → List (Addr × Obj)} {ps : σ → List (Str × Value)} {P : σ → Prop} (c : σ) {h : Heap} {tk : Nat} {m' : Str → Option Value} {news' : List (Addr × Obj)}
    (F : Fr h₀ L h m') (N : News h₀ L h news') (hn : ∀ p ∈ Led c, p ∈ news') (hm : ∀ p ∈ ps c, m' p.1 = some p.2) (hP : P c) :
    CutN h₀ L s Led ps P .next { s with heap := h, toks := tk } := by
  unfold CutN
  exact ⟨c, m', h, tk, rfl, hP, rfl, (by rw [mapIs hm]; exact F), fun p hp => N p (hn p hp)⟩
theorem cutQ_next {σ : Type} {h₀ : Heap} {L : Addr} {s : Shared} {Led : σ → List (Addr × Obj)} {ps : σ → List (Str × Value)} {P : σ → Prop} {Q : Flow → Shared → Prop} (c : σ) {h : Heap} {tk : Nat} {m' : Str → Option Value} {news' : List (Addr × Obj)}
    (F : Fr h₀ L h m') (N : News h₀ L h news') (hn : ∀ p ∈ Led c, p ∈ news') (hm : ∀ p ∈ ps c, m' p.1 = some p.2) (hP : P c) :
    CutQ h₀ L s Led ps P Q .next { s with heap := h, toks := tk } := by
  unfold CutQ
  exact ⟨c, m', h, tk, hP, rfl, (by rw [mapIs hm]; exact F), fun p hp => N p (hn p hp)⟩

section
variable {prog : Program} {w : World} {A : Around} {E : Value → Shared → Prop} {Q : Flow → Shared → Prop} {s : Shared} {env : Env} {h₀ : Heap} {L : Addr}
@[irreducible] def WhEnd {σ : Type} (h₀ : Heap) (L : Addr) (s : Shared) (Led : σ → List (Addr × Obj)) (ps : σ → List (Str × Value)) (P : σ → Prop) (μ : σ → Nat) (c : σ) (s₂ : Shared) : Prop :=
  ∃ (c' : σ) (h' : Heap) (tk : Nat) (m' : Str → Option Value) (news' : List (Addr × Obj)), s₂ = { s with heap := h', toks := tk } ∧ Fr h₀ L h' m' ∧ News h₀ L h' news' ∧ (∀ p ∈ Led c', p ∈ news') ∧ (∀ p ∈ ps c', m' p.1 = some p.2) ∧ P c' ∧ μ c' < μ c
@[irreducible] def WhPost {σ : Type} (h₀ : Heap) (L : Addr) (s : Shared) (Led : σ → List (Addr × Obj)) (ps : σ → List (Str × Value)) (P : σ → Prop) (μ : σ → Nat) (Q : Flow → Shared → Prop) (c : σ) (f : Flow) (s₂ : Shared) : Prop :=
  match f with
  | .ret v => Q (.ret v) s₂
  | .brk => Q .next s₂
  | _ => WhEnd h₀ L s Led ps P μ c s₂
theorem wh_end {σ : Type} {Led : σ → List (Addr × Obj)} {ps : σ → List (Str × Value)} {m' : Str → Option Value} {P : σ → Prop} {μ : σ → Nat} {c : σ} {h' : Heap} {tk : Nat} {news' : List (Addr × Obj)} (c' : σ)
    (F : Fr h₀ L h' m') (N : News h₀ L h' news') (hn : ∀ p ∈ Led c', p ∈ news') (hk : ∀ p ∈ ps c', m' p.1 = some p.2) (hp : P c') (hm : μ c' < μ c) :
    WhPost h₀ L s Led ps P μ Q c .next { s with heap := h', toks := tk } := by
  unfold WhPost WhEnd
  exact ⟨c', h', tk, m', news', rfl, F, N, hn, hk, hp, hm⟩
theorem wh_ret {σ : Type} {Led : σ → List (Addr × Obj)} {ps : σ → List (Str × Value)} {P : σ → Prop} {μ : σ → Nat} {c : σ} {v : Value} {s₂ : Shared} (h : Q (.ret v) s₂) : WhPost h₀ L s Led ps P μ Q c (.ret v) s₂ := by
  unfold WhPost
  exact h
/-- a while by what holds of it: only the names that are told matter -/
theorem wh {σ : Type} {test : PySem.Expr} {body : List Stmt} {pos : Pos} {m₀ : Str → Option Value} (Led : σ → List (Addr × Obj)) (ps : σ → List (Str × Value)) (P : σ → Prop) (μ : σ → Nat) (c₀ : σ)
    (F : Fr h₀ L s.heap m₀) (N : News h₀ L s.heap (Led c₀)) (hk : ∀ p ∈ ps c₀, m₀ p.1 = some p.2) (hp : P c₀)
    (turn : ∀ (c : σ) (u : Str → Option Value) h tk, P c → Fr h₀ L h (kstB u (ps c)) → News h₀ L h (Led c) →
      wpAny (model prog w) A (isTrue test env (eval test env)) (fun b s₂ =>
        if b = true then wpAny (model prog w) A (execs body env) (WhPost h₀ L s Led ps P μ Q c) E s₂ else Q .next s₂) E { s with heap := h, toks := tk })
    (hE : PassesOwn (model prog w) A env E := by passes_own) :
    wpAny (model prog w) A (exec (.While test body [] pos) env) Q E s := by
  refine While_inv2 (fun n m nx => ∃ c : σ, nx = Led c ∧ μ c = n ∧ (∀ p ∈ ps c, m p.1 = some p.2) ∧ P c) F N ⟨c₀, rfl, rfl, hk, hp⟩ ?_ hE
  rintro n m₁ nx h tk F₁ N₁ ⟨c, hnx, hsz, h1, hp'⟩
  rw [hnx] at N₁
  rw [← hsz]
  refine wpAny_mono (turn c m₁ h tk hp' (by rw [mapIs h1]; exact F₁) N₁) (fun b s₂ p => ?_) fun _ _ x => x
  cases b with
  | false => simpa using p
  | true =>
    simp only [if_true] at p ⊢
    refine wpAny_mono p (fun f s₃ q => ?_) fun _ _ x => x
    unfold WhPost at q
    cases f with
    | ret v => exact q
    | brk => exact q
    | next =>
      simp only at q
      unfold WhEnd at q
      obtain ⟨c', h', tk', m', news', rfl, F', N', hn, hk9, hp9, hm9⟩ := q
      exact ⟨h', tk', m', Led c', μ c', rfl, F', fun p hp => N' p (hn p hp), hm9, c', rfl, rfl, hk9, hp9⟩
    | cont =>
      simp only at q
      unfold WhEnd at q
      obtain ⟨c', h', tk', m', news', rfl, F', N', hn, hk9, hp9, hm9⟩ := q
      exact ⟨h', tk', m', Led c', μ c', rfl, F', fun p hp => N' p (hn p hp), hm9, c', rfl, rfl, hk9, hp9⟩
end
end Mine

end
section
open PySem PySem.W PyProof.Rows PySem.Calls PyProof.V PySem.Spec
namespace Mine
open Builtin.Str in
theorem idx_ns (p : Int) (n : Nat) (h : p < 0) (h2 : -(n : Int) ≤ p) : strSliceIndices none (some p) 1 n = List.range (n + p).toNat := by
  unfold strSliceIndices sliceRange
  simp only [show (1 : Int) > 0 by decide, if_true, if_pos h]
  have e1 : max 0 (min (p + (n : Int)) n) = p + n := by omega
  rw [e1]
  have e2 : (if (0 : Int) < p + n then (p + n - 0 + 1 - 1) / 1 else 0) = p + n := by
    split <;> (try simp only [Int.ediv_one]) <;> omega
  rw [e2, show p + (n : Int) = n + p by omega]
  conv => rhs; rw [← List.map_id (List.range _)]
  apply List.map_congr_left
  intro k _
  simp
open Builtin.Str in
theorem idx_nn (n : Nat) : strSliceIndices none none 1 n = List.range n := by
  unfold strSliceIndices sliceRange
  simp only [show (1 : Int) > 0 by decide, if_true]
  have e2 : (if (0 : Int) < n then ((n : Int) - 0 + 1 - 1) / 1 else 0) = n := by
    split <;> (try simp only [Int.ediv_one]) <;> omega
  rw [e2]
  conv => rhs; rw [← List.map_id (List.range _)]
  rw [Int.toNat_natCast]
  apply List.map_congr_left
  intro k _
  simp
open Builtin.Str in
theorem idx_sn (p : Int) (n : Nat) (h : 0 ≤ p) (h2 : p ≤ n) : strSliceIndices (some p) none 1 n = (List.range (n - p.toNat)).map (· + p.toNat) := by
  unfold strSliceIndices sliceRange
  simp only [show (1 : Int) > 0 by decide, if_true, if_neg (show ¬ p < 0 by omega)]
  have e1 : max 0 (min p n) = p := by omega
  rw [e1]
  have e2 : (if p < n then ((n : Int) - p + 1 - 1) / 1 else 0) = n - p := by
    split <;> (try simp only [Int.ediv_one]) <;> omega
  rw [e2, show ((n : Int) - p).toNat = n - p.toNat by omega]
  apply List.map_congr_left
  intro k _
  omega
theorem slice_nn (a : Str) : Txt.slice a none none = a := by
  unfold Txt.slice
  rw [idx_nn]
  simp
theorem filterMap_range {α : Type} (l : Array α) (k : Nat) (h : k ≤ l.size) : (List.range k).filterMap (l[·]?) = l.toList.take k := by
  induction k with
  | zero => simp
  | succ k ih =>
    rw [List.range_succ, List.filterMap_append, ih (by omega), List.take_add_one]
    congr 1
    have hk : k < l.size := by omega
    simp [hk]
theorem slice_ns (a : Str) (p : Int) (h : p < 0) (h2 : -(a.length : Int) ≤ p) : Txt.slice a none (some p) = ⟨(a.cps.toList.take (a.length + p).toNat).toArray⟩ := by
  unfold Txt.slice
  rw [idx_ns p a.length h h2]
  have hl : (List.range ((a.length : Int) + p).toNat).length ≠ a.length := by rw [List.length_range]; omega
  rw [if_neg (by simpa using hl)]
  rw [filterMap_range _ _ (by show _ ≤ a.length; omega)]
theorem slice_sn (a : Str) (p : Int) (h : 0 ≤ p) (h2 : p ≤ a.length) : Txt.slice a (some p) none = ⟨(a.cps.toList.drop p.toNat).toArray⟩ := by
  unfold Txt.slice
  rw [idx_sn p a.length h h2]
  split
  · rename_i e
    have e' : a.length - p.toNat = a.length := by simpa using e
    obtain ⟨⟨l⟩⟩ := a
    simp only [Str.length, List.size_toArray] at *
    have : p.toNat = 0 ∨ l.length = 0 := by omega
    rcases this with q | q
    · simp [q]
    · have : l = [] := List.eq_nil_of_length_eq_zero q
      subst this; simp
  · congr 2
    obtain ⟨⟨l⟩⟩ := a
    simp only [Str.length, List.size_toArray, List.filterMap_map] at *
    have : (fun x => l.toArray[x]?) ∘ (fun x => x + p.toNat) = fun x => (l.drop p.toNat).toArray[x]? := by
      funext k
      simp [List.getElem?_drop, Nat.add_comm]
    rw [this, filterMap_range _ _ (by simp)]
    simp only []
    exact List.take_of_length_le (by simp)
theorem len_ns (a : Str) (p : Int) (h : p < 0) (h2 : -(a.length : Int) ≤ p) : ((Txt.slice a none (some p)).length : Int) = a.length + p := by
  rw [slice_ns a p h h2]
  show (((a.cps.toList.take (a.length + p).toNat).toArray.size : Nat) : Int) = _
  have : a.cps.toList.length = a.length := by simp [Str.length]
  simp only [List.size_toArray, List.length_take, this]
  omega
theorem len_sn (a : Str) (p : Int) (h : 0 ≤ p) (h2 : p ≤ a.length) : ((Txt.slice a (some p) none).length : Int) = a.length - p := by
  rw [slice_sn a p h h2]
  show (((a.cps.toList.drop p.toNat).toArray.size : Nat) : Int) = _
  have : a.cps.toList.length = a.length := by simp [Str.length]
  simp only [List.size_toArray, List.length_drop, this]
  omega
/-- a[:post or None] -/
def cutEnd (a : Str) (p : Int) : Str := if p = 0 then Txt.slice a none none else Txt.slice a none (some p)
theorem len_cutEnd (a : Str) (p : Int) (h : p ≤ 0) (h2 : -(a.length : Int) ≤ p) : ((cutEnd a p).length : Int) = a.length + p := by
  unfold cutEnd
  split
  · rw [slice_nn]; omega
  · exact len_ns a p (by omega) h2
end Mine

end
section
open PySem PySem.W PyProof.Rows PySem.Calls PyProof.V PySem.Spec
set_option maxRecDepth 100000
set_option maxHeartbeats 0
namespace Mine
noncomputable def bodyOf (n : Nat) : List Stmt := match PySem.Challenge.pw_pg0136_01.main.body[n]? with
  | some (.FunctionDef _ _ body _ _ _ _ _ _ _) => body
  | _ => []
noncomputable def scopeOf (n : Nat) : Scope := match PySem.Challenge.pw_pg0136_01.main.body[n]? with
  | some (.FunctionDef _ _ _ _ _ _ s _ _ _) => s
  | _ => default
section
variable {prog : Program} {w : World} {A : Around} {E : Value → Shared → Prop} {s : Shared} {h₀ : Heap} {L r : Addr} {m : Str → Option Value} {news : List (Addr × Obj)} {a b c : Int} {t₀ u₀ v₀ : Tok} {n : Nat} {Q : Value → Shared → Prop}
theorem ints_step : ∀ (vs : List Value) (a c : Int) (n : Nat), vs.length = n → (∀ (j : Nat) (v : Value), vs[j]? = some v → ∃ t, v = .int (a + j * c) t) → IntsAre vs ((List.range n).map fun (i : Nat) => a + (i : Int) * c)
  | [], a, c, n, e, _ => by
    subst e
    exact IntsAre.nil
  | v :: r, a, c, n, e, h => by
    subst e
    obtain ⟨t, ht⟩ := h 0 v rfl
    have hv : v = .int a t := by rw [ht]; simp
    subst hv
    rw [List.length_cons, List.range_succ_eq_map, List.map_cons, List.map_map]
    have e0 : a + ((0 : Nat) : Int) * c = a := by simp
    rw [e0]
    have e1 : ((fun (i : Nat) => a + (i : Int) * c) ∘ Nat.succ) = fun (i : Nat) => (a + c) + (i : Int) * c := by
      funext i
      simp only [Function.comp, Nat.succ_eq_add_one, Int.natCast_add, Int.add_mul]
      omega
    rw [e1]
    refine IntsAre.cons _ _ (ints_step r (a + c) c r.length rfl fun j v hj => ?_)
    obtain ⟨t', ht'⟩ := h (j + 1) v hj
    refine ⟨t', ht'.trans ?_⟩
    congr 1
    simp only [Int.natCast_add, Int.add_mul]
    omega
theorem list_rangeC (hh : A.handled = none) (F : Fr h₀ L s.heap m) (N : News h₀ L s.heap news) (hr : IsRange s.heap r a b c t₀ u₀ v₀) (hsmall : Builtin.Range.small a b c = true) (hn : Builtin.Range.rangeSize a b c = (n : Int)) (hz : n ≤ 2 ^ 24)
    (h : ∀ D us c₁ h' tk, Fr h₀ L h' m → News h₀ L h' ((D, listOf (List.toArray us) c₁) :: news) → (∀ p ∈ news, p.1 < D) → IntsAre us ((List.range n).map fun (i : Nat) => a + (i : Int) * c) → Q (.ref D) { s with heap := h', toks := tk }) :
    wpAny (model prog w) A (call (.type "list") [.ref r]) Q E s := by
  refine call_list_range hh hr hsmall hn hz fun h' tk acc c₁ hk hD hI => ?_
  have hD' : h'.get? s.heap.objs.size = some (listOf (List.toArray acc.toList) c₁) := by
    rw [Array.toArray_toList]
    exact hD
  exact h _ acc.toList c₁ h' tk (F.keeps hk) (news_pushed F N hk hD' rfl) (fun p hp => Heap.lt_size (N p hp).1) (ints_step _ _ _ _ (by rw [Array.length_toList]; exact hI.1) fun j v hj => hI.2 j v (by rw [← hj, Array.getElem?_toList]))
end
section
variable {prog : Program} {w : World} {A : Around} {E : Value → Shared → Prop} {s : Shared} {env : Env} {h₀ : Heap} {x : Str} {body : List Stmt} {Q : Flow → Shared → Prop}
/-- a for over a range by what holds of it: only the names that are told matter -/
def FrJ {σ : Type} (Led : σ → List (Addr × Obj)) (ps : σ → List (Str × Value)) (P : Nat → σ → Prop) (i : Nat) (m : Str → Option Value) (nx : List (Addr × Obj)) : Prop :=
  ∃ c : σ, nx = Led c ∧ (∀ p ∈ ps c, m p.1 = some p.2) ∧ P i c
theorem for_range {σ : Type} {r : Addr} {a₀ b₀ : Int} {t₀ u₀ v₀ : Tok} {n : Nat} {m₀ : Str → Option Value} (Led : σ → List (Addr × Obj)) (ps : σ → List (Str × Value)) (P : Nat → σ → Prop) (c₀ : σ)
    (hh : A.handled = none) (hr : IsRange s.heap r a₀ b₀ 1 t₀ u₀ v₀) (hsmall : Builtin.Range.small a₀ b₀ 1 = true) (hn : Builtin.Range.rangeSize a₀ b₀ 1 = (n : Int)) (F : Fr h₀ env.locals s.heap m₀) (N : News h₀ env.locals s.heap (Led c₀)) (hk : ∀ p ∈ ps c₀, m₀ p.1 = some p.2) (hp : P 0 c₀)
    (turn : ∀ (c : σ) (i : Nat) t (u : Str → Option Value) h tk own, i < n → OwnOff own ((Led c₀).map (·.1)) → P i c →
      Fr h₀ env.locals h (fun y => if y = x then some (.int (a₀ + (i : Int)) t) else kstB u (ps c) y) → News h₀ env.locals h (Led c ++ own) →
      wpAny (model prog w) A (execs body env) (InvPostN h₀ env.locals (FrJ Led ps P (i + 1)) own ((Led c₀).map (·.1)) { s with heap := h, toks := tk } Q) E { s with heap := h, toks := tk })
    (done : ∀ (c : σ) (u : Str → Option Value) h tk, P n c → Fr h₀ env.locals h (kstB u (ps c)) → News h₀ env.locals h (Led c) → Q .next { s with heap := h, toks := tk }) :
    wpAny (model prog w) A (pyIter (.ref r)) (fun it s₂ => LoopAtV prog w A h₀ env x body Q E it s₂) E s := by
  refine wpAny_pyIter_range hr hsmall ?_
  have W : Walks prog w A s.heap.objs.size [s.heap.objs.size] [s.heap.objs.size] n (fun i v => i < n ∧ ∃ t, v = .int (a₀ + i * 1) t)
      (fun i h => IsRangeIter h s.heap.objs.size (a₀ + (i : Nat) * 1) ((n : Int) - (i : Nat)) 1) := (Walks.range hh _ a₀ 1 n).bound
  refine loop_invN (FrJ Led ps P) W ?_ ?_ ?_ ?_ (by show IsRangeIter _ _ _ _ _; rw [hn]; simpa using Heap.get?_push_size _ rfl) (F.push _) (fun p hp => ⟨Heap.get?_push_of_some _ (N p hp).1, (N p hp).2⟩) ⟨c₀, rfl, hk, hp⟩ ?_ ?_
  · intro hm
    exact absurd F.ns.lt ((List.mem_singleton.mp hm) ▸ Nat.lt_irrefl _)
  · intro b hb
    rw [List.mem_singleton.mp hb]
    exact next_is_new F
  · intro p hp hI
    exact absurd (Heap.lt_size (N p hp).1) ((List.mem_singleton.mp hI) ▸ Nat.lt_irrefl _)
  · intro p hp hI
    exact absurd (Heap.lt_size (N p hp).1) ((List.mem_singleton.mp hI) ▸ Nat.lt_irrefl _)
  · rintro i v m₁ nx h tk own hi ⟨_, t, rfl⟩ _ hoff ⟨c, rfl, h1, hp'⟩ F₁ N₁
    have e1 : a₀ + (i : Int) * 1 = a₀ + (i : Int) := by omega
    rw [e1] at F₁
    exact turn c i t m₁ h tk own hi hoff hp' (by rw [mapIs h1]; exact F₁) N₁
  · rintro m₁ nx h tk ⟨c, rfl, h1, hp'⟩ F₁ N₁
    exact done c m₁ h tk hp' (by rw [mapIs h1]; exact F₁) N₁
theorem for_end {σ : Type} {Led : σ → List (Addr × Obj)} {ps : σ → List (Str × Value)} {P : Nat → σ → Prop} {i : Nat} (c : σ) {L : Addr} {m' : Str → Option Value} {own news' : List (Addr × Obj)} {adr : List Addr} {s₁ : Shared} {h' : Heap} {tk : Nat}
    (F : Fr h₀ L h' m') (N : News h₀ L h' news') (hn : ∀ p ∈ Led c, p ∈ news') (ho : ∀ p ∈ own, p ∈ news') (ha : (Led c).map (·.1) = adr) (hk : ∀ p ∈ ps c, m' p.1 = some p.2) (hp : P i c) :
    InvEndN h₀ L (FrJ Led ps P i) own adr s₁ { s₁ with heap := h', toks := tk } :=
  InvEndN.intro F N ⟨c, rfl, hk, hp⟩ ha hn ho
end
end Mine

end
section
open PySem PySem.W PyProof.Rows PySem.Calls PyProof.V PySem.Spec
set_option maxRecDepth 100000
set_option maxHeartbeats 0
namespace Mine
theorem small_two (l : Nat) (h : l ≤ 40) : Builtin.Range.small 2 (2 * ((l : Int) + 1)) 2 = true := by
  have : ∀ l : Fin 41, Builtin.Range.small 2 (2 * ((l.val : Int) + 1)) 2 = true := by decide +kernel
  exact this ⟨l, by omega⟩
theorem size_two (l : Nat) : Builtin.Range.rangeSize 2 (2 * ((l : Int) + 1)) 2 = (l : Int) := by
  unfold Builtin.Range.rangeSize
  simp only [show (2 : Int) > 0 by decide, if_true]
  split <;> omega
/-- one cell of the table -/
def cellStep (bc a : Str) (st : Int × Int × List Int × Int) (i : Nat) : Int × Int × List Int × Int :=
  let d := st.2.2.1.getD i 0
  let i1 := (if d < st.2.1 then d else st.2.1) + 2
  let sub := st.1 + substP bc (Txt.item a i)
  let r := if sub < i1 then sub else i1
  (d, r, st.2.2.1.set i r, if r < st.2.2.2 then r else st.2.2.2)
def innerP (bc a : Str) (row : List Int) (i : Nat) : Int × Int × List Int × Int :=
  (List.range a.length).foldl (cellStep bc a) ((i : Int) * 2, (i : Int) * 2, row, 9223372036854775807)
def outerP (a b : Str) (mx : Int) : Nat → Nat → Int → List Int → Int
  | 0, _, res, _ => res
  | n + 1, i, _, row =>
    let st := innerP (Txt.item b i) a row i
    if st.2.2.2 > mx then mx + 1 else outerP a b mx n (i + 1) st.2.1 st.2.2.1
def rowInit (n : Nat) : List Int := (List.range n).map fun (i : Nat) => 2 + (i : Int) * 2
def tailP (a b : Str) (mx : Int) : Int :=
  if a.length = 0 then 2 * ((a.length : Int) + b.length) else if b.length = 0 then 2 * ((a.length : Int) + b.length) else outerP a b mx b.length 0 0 (rowInit a.length)
noncomputable def levTail : List Stmt := (bodyOf 5).tail.tail.tail.tail.tail.tail.tail.tail.tail
theorem subst_call {w : World} {mg mb : Str → Option Value} {mean : ExcName → Option Value} {x y : Str} {tx ty : Tok} {news : List (Addr × Obj)}
    {dp un : Nat} {gd : Option (List Code)} {cn : Str} {cs : Scope} {a : Addr} {ccd : Value} {cl : List (Str × Addr)} {outer : List Env} {A₀ : Around} {base h₀ : Heap} {L : Addr} {m : Str → Option Value} {s : Shared} {Q E : Value → Shared → Prop}
    (hx : x.length = 1) (hy : y.length = 1) (hB : Below A₀ base outer h₀) (F : Fr h₀ L s.heap m) (hX : (hd.heap_39 w.params).In h₀) (N : News h₀ L s.heap news) (hT : Top hd.view_39 (looseW hd.view_39 []) mean mg mb h₀) (hcs : cs.kind = .function)
    (hdp : dp + 1 < recursionLimit) (hun : un + 8 < cLine)
    (hret : ∀ (t : Tok) (h' : Heap) (tk' : Nat), Fr h₀ L h' m → News h₀ L h' news → Q (.int (substP x y) t) { s with heap := h', toks := tk' }) :
    wpAny (model PySem.Challenge.rw_pg0136_01.row.prog w) (ktrTop dp un gd cn cs L a ccd cl outer) (call (.ref 21) [.str x tx, .str y ty]) Q E s :=
  subst_claim x y tx ty news hx hy dp un gd cn cs a ccd cl outer A₀ base h₀ L m s Q E hB F hX N hT hcs trivial hdp hun hret
theorem consMono {α : Type} {x : α} {l l' : List α} (h : ∀ p ∈ l, p ∈ l') : ∀ p ∈ x :: l, p ∈ x :: l' := fun p hp => by
  rcases List.mem_cons.mp hp with rfl | hp
  · exact .head _
  · exact .tail _ (h p hp)
structure OS where
  res : Int
  row : List Int
  us : List Value
  k : Nat
  t : Tok
structure IS where
  dist : Int
  res : Int
  row : List Int
  mn : Int
  us : List Value
  k : Nat
  t1 : Tok
  t2 : Tok
  t3 : Tok
section
local macro_rules | `(tactic| walk_at "call ref") => `(tactic| ((with_reducible show wpAny _ _ (call (Value.ref 21) _) _ _ _); k_dflt (refine' subst_call ?s1 ?s2 ?s3 ?s4 ?s5 ?s6 ?s7 ?s8 ?s9 ?s10 ?_; (case s1 => exact rfl); (case s2 => exact rfl); (case s3 => k_asm); (case s4 => k_asm); (case s5 => k_asm); (case s6 => k_asm); (case s7 => k_asm); (case s8 => exact rfl); (case s9 => ktr_room); (case s10 => ktr_units)); intro t9 h9 tk9 F9 N9; (try dsimp only)))
local macro_rules | `(tactic| walk_at "setItem ref int") => `(tactic| ((with_reducible show wpAny _ _ (setItem (Value.ref _) (Value.int _ _) (Value.int _ _)) _ _ _); k_dflt (refine' ksa_set ?k1 ?k2 ?k3 ?k4 ?k5 ?k6 ?k7 ?_; (case k1 => k_asm); (case k2 => k_asm); (case k3 => exact Upd.head (by assumption)); (case k4 => with_reducible assumption); (case k5 => omega); (case k6 => omega); (case k7 => omega)); intro h' F' N' hi' hl' hs'; (try k_sweep)))
local macro_rules | `(tactic| walk_at "InvEndN") => `(tactic| (refine halt ?_))
local macro_rules | `(tactic| walk_at "exec While BoolOp cons nil") => `(tactic| (refine halt ?_))
local macro_rules | `(tactic| walk_at "WhPost") => `(tactic| (refine halt ?_))
local macro_rules | `(tactic| walk_at "CutQ") => `(tactic| (refine halt ?_))
local macro_rules | `(tactic| walk_at "pyIter ref") => `(tactic| (refine halt ?_))
local macro_rules | `(tactic| walk_at "call type:list") => `(tactic| (refine halt ?_))
theorem lev_tail {w : World} {mg mb : Str → Option Value} {mean : ExcName → Option Value} (a b : Str) (mx : Int) (ta tb tm : Tok) (news : List (Addr × Obj))
    (hl : b.length = a.length) (h40 : a.length ≤ 40) (hmx : 0 ≤ mx ∧ mx ≤ 100)
    {dp un : Nat} {gd : Option (List Code)} {cn : Str} {cs : Scope} {L₀ a₀ : Addr} {ccd : Value} {cl : List (Str × Addr)} {outer : List Env} {base h₀ : Heap} {L : Addr} {u : Str → Option Value} {s : Shared} {Q : Flow → Shared → Prop} {E : Value → Shared → Prop}
    (hB : Below (ktrTop dp un gd cn cs L₀ a₀ ccd cl outer) base (envX cn cs L₀ a₀ ccd cl :: outer) h₀)
    (F : Fr h₀ L s.heap (kstB u [(Str.ofString "a", .str a ta), (Str.ofString "b", .str b tb), (Str.ofString "max_cost", .int mx tm)]))
    (hX : (hd.heap_39 w.params).In h₀) (N : News h₀ L s.heap news) (hT : Top hd.view_39 (looseW hd.view_39 []) mean mg mb h₀)
    (hdp : dp + 3 < recursionLimit) (hu : un + 24 < cLine)
    (hE : PassesOwn (model PySem.Challenge.rw_pg0136_01.row.prog w) ((ktrTop dp un gd cn cs L₀ a₀ ccd cl outer).deeper (envOf (Str.ofString "_levenshtein_distance") (scopeOf 5) L 28 (.ref 27))) (envOf (Str.ofString "_levenshtein_distance") (scopeOf 5) L 28 (.ref 27)) E)
    (hQ : ∀ (t : Tok) (h' : Heap) (tk' : Nat) m' news', Fr h₀ L h' m' → News h₀ L h' news' → (∀ p ∈ news, p ∈ news') → Q (.ret (.int (tailP a b mx) t)) { s with heap := h', toks := tk' }) :
    wpAny (model PySem.Challenge.rw_pg0136_01.row.prog w) ((ktrTop dp un gd cn cs L₀ a₀ ccd cl outer).deeper (envOf (Str.ofString "_levenshtein_distance") (scopeOf 5) L 28 (.ref 27)))
      (execs levTail (envOf (Str.ofString "_levenshtein_distance") (scopeOf 5) L 28 (.ref 27))) Q E s := by
  w_top off
  revert hX; k_fill; intro hX
  dsimp only [levTail, bodyOf, scopeOf, PySem.Challenge.pw_pg0136_01, List.getElem?_cons_succ, List.getElem?_cons_zero, List.tail_cons] at *
  dsimp only [kstB] at F
  k_steps
  · refine go ?_
    rename IsRange _ _ _ _ _ _ _ _ => hR
    rename Fr _ _ _ _ => F'
    rename News _ _ _ _ => N'
    refine list_rangeC rfl F' N' hR (small_two _ h40) (size_two _) (by omega) ?_
    clear F' N' hR
    intro D us c₁ h' tk' F N hD hI
    k_steps
    refine go ?_
    rename IsRange _ _ _ _ _ _ _ _ => hR
    rename Fr _ _ _ _ => F
    rename News _ _ _ _ => N
    refine for_range (σ := OS) (fun c => (D, W.listOf c.us.toArray c.k) :: news) (fun c => [(Str.ofString "a", .str a ta), (Str.ofString "b", .str b tb), (Str.ofString "max_cost", .int mx tm), (Str.ofString "row", .ref D), (Str.ofString "result", .int c.res c.t)])
      (fun i c => IntsAre c.us c.row ∧ c.row.length = a.length ∧ Hold (outerP a b mx (b.length - i) i c.res c.row = outerP a b mx b.length 0 0 (rowInit a.length))) ⟨0, rowInit a.length, us, c₁, _⟩ rfl hR (small_one (by omega) (by omega) (by omega) (by omega)) (n := b.length) ?_ F N (fa5 rfl rfl rfl rfl rfl) ⟨hI, by simp [rowInit], ⟨rfl⟩⟩ ?_ ?_
    · rw [rangeSize_nat]; omega
    · clear F N hR hI
      rintro ⟨res, row, us, k, t⟩ i ti u h tk own hi hoff ⟨hI, hlen, ⟨hrem⟩⟩ F N
      dsimp only at *
      dsimp only [kstB] at F
      simp only [List.cons_append] at N
      simp only [Int.zero_add] at F
      k_steps
      refine go ?_
      rename IsRange _ _ _ _ _ _ _ _ => hR
      rename Fr _ _ _ _ => F
      rename News _ _ _ _ => N
      refine for_range (σ := IS) (fun c => (D, W.listOf c.us.toArray c.k) :: (news ++ own)) (fun c => [(Str.ofString "a", .str a ta), (Str.ofString "b", .str b tb), (Str.ofString "max_cost", .int mx tm), (Str.ofString "row", .ref D), (Str.ofString "bchar", .str (Txt.item b i) _), (Str.ofString "distance", .int c.dist c.t1), (Str.ofString "result", .int c.res c.t2), (Str.ofString "minimum", .int c.mn c.t3)])
        (fun j c => IntsAre c.us c.row ∧ c.row.length = a.length ∧ Hold ((c.dist, c.res, c.row, c.mn) = (List.range j).foldl (cellStep (Txt.item b i) a) ((i : Int) * 2, (i : Int) * 2, row, 9223372036854775807))) ⟨(i : Int) * 2, (i : Int) * 2, row, 9223372036854775807, us, k, _, _, _⟩ rfl hR (small_one (by omega) (by omega) (by omega) (by omega)) (n := a.length) ?_ F N (fa8 rfl rfl rfl rfl rfl rfl rfl rfl) ⟨hI, hlen, ⟨rfl⟩⟩ ?_ ?_
      · rw [rangeSize_nat]; omega
      · clear F N hR hI
        rintro ⟨dist, res', row', mn, us', k', t1, t2, t3⟩ j tj u h tk own' hj hoff' ⟨hI, hlen', ⟨hst⟩⟩ F N
        dsimp only at *
        dsimp only [kstB] at F
        simp only [List.cons_append] at N
        simp only [Int.zero_add] at F
        have hne : ∀ p ∈ news ++ own ++ own', p.1 ≠ D := by
          intro p hp
          rcases List.mem_append.mp hp with hp | hp
          · rcases List.mem_append.mp hp with hp | hp
            · exact Nat.ne_of_lt (hD p hp)
            · exact hoff p hp D (by simp)
          · exact hoff' p hp D (by simp)
        k_steps
        all_goals refine go ?_
        all_goals simp only [Int.toNat_natCast] at *
        · refine for_end ⟨_, _, _, _, _, _, _, _, _⟩ (by assumption) (by assumption) (consMono fun p hp => List.mem_append_left _ hp) (fun p hp => .tail _ (List.mem_append_right _ hp)) rfl (fa8 rfl rfl rfl rfl rfl rfl rfl rfl) ⟨by assumption, by simp only [List.length_set]; exact hlen', ⟨?_⟩⟩
          rw [List.range_succ, List.foldl_append, ← hst]
          exact Prod.ext rfl (Prod.ext rfl (Prod.ext rfl (if_pos (by assumption)).symm))
        · refine for_end ⟨_, _, _, _, _, _, _, _, _⟩ (by assumption) (by assumption) (consMono fun p hp => List.mem_append_left _ hp) (fun p hp => .tail _ (List.mem_append_right _ hp)) rfl (fa8 rfl rfl rfl rfl rfl rfl rfl rfl) ⟨by assumption, by simp only [List.length_set]; exact hlen', ⟨?_⟩⟩
          rw [List.range_succ, List.foldl_append, ← hst]
          exact Prod.ext rfl (Prod.ext rfl (Prod.ext rfl (if_neg (by assumption)).symm))
      · clear F N hR hI
        rintro ⟨dist, res', row', mn, us', k', t1, t2, t3⟩ u h tk ⟨hI, hlen', ⟨hst⟩⟩ F N
        dsimp only at *
        dsimp only [kstB] at F
        have hin : innerP (Txt.item b i) a row i = (dist, res', row', mn) := hst.symm
        have hgo : outerP a b mx (b.length - i) i res row = if mn > mx then mx + 1 else outerP a b mx (b.length - (i + 1)) (i + 1) res' row' := by
          rw [show b.length - i = (b.length - (i + 1)) + 1 by omega]
          simp only [outerP, hin]
        k_steps
        · have e : tailP a b mx = mx + 1 := by
            unfold tailP
            rw [if_neg (by omega), if_neg (by omega), ← hrem, hgo, if_pos (by omega)]
          rw [e] at hQ
          exact hQ _ _ _ _ _ F N (fun _ h => .tail _ (List.mem_append_left _ h))
        · refine go ?_
          refine for_end ⟨res', row', us', k', _⟩ F N (fun p hp => ?_) (fun p hp => .tail _ (List.mem_append_right _ hp)) rfl (fa5 rfl rfl rfl rfl rfl) ⟨hI, hlen', ⟨?_⟩⟩
          · rcases List.mem_cons.mp hp with rfl | hp
            · exact .head _
            · exact .tail _ (List.mem_append_left _ hp)
          · rw [← hrem, hgo, if_neg (by omega)]
    · clear F N hR hI
      rintro ⟨res, row, us, k, t⟩ u h tk ⟨hI, hlen, ⟨hrem⟩⟩ F N
      dsimp only at *
      dsimp only [kstB] at F
      k_steps
      have e : tailP a b mx = res := by
        unfold tailP
        rw [if_neg (by omega), if_neg (by omega), ← hrem, Nat.sub_self]
        rfl
      rw [e] at hQ
      exact hQ _ _ _ _ _ F N (fun _ h => .tail _ h)
  · rename Fr _ _ _ _ => F'
    have e : tailP a b mx = 2 * ((a.length : Int) + b.length) := by unfold tailP; split <;> first | rfl | (split <;> first | rfl | (exfalso; omega))
    rw [e] at hQ
    exact hQ _ _ _ _ _ F' N (fun _ h => h)
  · rename Fr _ _ _ _ => F'
    have e : tailP a b mx = 2 * ((a.length : Int) + b.length) := by unfold tailP; split <;> first | rfl | (split <;> first | rfl | (exfalso; omega))
    rw [e] at hQ
    exact hQ _ _ _ _ _ F' N (fun _ h => h)
end
end Mine

end
section
open PySem PySem.W PyProof.Rows PySem.Calls PyProof.V PySem.Spec
set_option maxRecDepth 100000
set_option maxHeartbeats 0
namespace Mine
/-- the first while of _levenshtein_distance -/
def pre1 (x y : Str) : Nat → Int → Int
  | 0, p => p
  | n + 1, p => if (Txt.slice x (some p) none).length = 0 then p else if (Txt.slice y (some p) none).length = 0 then p else if Txt.item x p == Txt.item y p then pre1 x y n (p + 1) else p
theorem pre1_s1 {x y : Str} {n : Nat} {p : Int} (h : (Txt.slice x (some p) none).length = 0) : pre1 x y n p = p := by
  cases n with
  | zero => rfl
  | succ n => simp [pre1, h]
theorem pre1_s2 {x y : Str} {n : Nat} {p : Int} (h : (Txt.slice y (some p) none).length = 0) : pre1 x y n p = p := by
  cases n with
  | zero => rfl
  | succ n => simp [pre1, h]
theorem pre1_s3 {x y : Str} {n : Nat} {p : Int} (h : (Txt.item x p == Txt.item y p) = false) : pre1 x y n p = p := by
  cases n with
  | zero => rfl
  | succ n => simp [pre1, h]
theorem pre1_go {x y : Str} {n : Nat} {p : Int} (h1 : (Txt.slice x (some p) none).length ≠ 0) (h2 : (Txt.slice y (some p) none).length ≠ 0) (h3 : (Txt.item x p == Txt.item y p) = true) : pre1 x y (n + 1) p = pre1 x y n (p + 1) := by
  rw [pre1, if_neg h1, if_neg h2, if_pos h3]
def post1 (a b : Str) : Nat → Int → Int
  | 0, p => p
  | n + 1, p => if (cutEnd a p).length = 0 then p else if (cutEnd b p).length = 0 then p else if Txt.item a (p - 1) == Txt.item b (p - 1) then post1 a b n (p - 1) else p
theorem post1_s1 {x y : Str} {n : Nat} {p : Int} (h : (cutEnd x p).length = 0) : post1 x y n p = p := by
  cases n with
  | zero => rfl
  | succ n => simp [post1, h]
theorem post1_s2 {x y : Str} {n : Nat} {p : Int} (h : (cutEnd y p).length = 0) : post1 x y n p = p := by
  cases n with
  | zero => rfl
  | succ n => simp [post1, h]
theorem post1_s3 {x y : Str} {n : Nat} {p : Int} (h : (Txt.item x (p - 1) == Txt.item y (p - 1)) = false) : post1 x y n p = p := by
  cases n with
  | zero => rfl
  | succ n => simp [post1, h]
theorem post1_go {x y : Str} {n : Nat} {p : Int} (h1 : (cutEnd x p).length ≠ 0) (h2 : (cutEnd y p).length ≠ 0) (h3 : (Txt.item x (p - 1) == Txt.item y (p - 1)) = true) : post1 x y (n + 1) p = post1 x y n (p - 1) := by
  rw [post1, if_neg h1, if_neg h2, if_pos h3]
section
local macro_rules | `(tactic| walk_at "evalPart none") => `(tactic| ((try dsimp only); refine evalPart_none_step ?_))
local macro_rules | `(tactic| walk_at "truthy") => `(tactic| (dsimp only))
local macro_rules | `(tactic| walk_at "truthy str") => `(tactic| (dsimp only))
local macro_rules | `(tactic| walk_at "exec While BoolOp cons nil") => `(tactic| (refine halt ?_))
local macro_rules | `(tactic| walk_at "WhPost") => `(tactic| (refine halt ?_))
local macro_rules | `(tactic| walk_at "CutN") => `(tactic| (refine halt ?_))
local macro_rules | `(tactic| walk_at "pyIter") => `(tactic| (refine halt ?_))
local macro_rules | `(tactic| walk_at "subscriptTail Name Slice str ref") => `(tactic| ((with_reducible show wpAny _ _ (subscriptTail _ (Expr.Slice none (some _) none _) _ _) _ _ _); (with_reducible rename Fr _ _ _ _ => F'); (with_reducible rename News _ _ _ _ => N'); refine slice_strN_nn_len (s := ⟨_, _, _, _, _⟩) F' N' ?_; intro _ _ _ _ _ _))
def levP (x y : Str) (mx : Int) : Int :=
  if x = y then 0 else
  let p := pre1 x y (x.length + 1) 0
  let a := Txt.slice x (some p) none
  let b := Txt.slice y (some p) none
  let q := post1 a b (a.length + 1) 0
  tailP (cutEnd a q) (cutEnd b q) mx
local macro_rules | `(tactic| walk_at "pad") => `(tactic| skip)
theorem lev_call {w : World} {mg mb : Str → Option Value} {mean : ExcName → Option Value} {x y : Str} {mx : Int} {tx ty tm : Tok} {news : List (Addr × Obj)}
    {dp un : Nat} {gd : Option (List Code)} {cn : Str} {cs : Scope} {a : Addr} {ccd : Value} {cl : List (Str × Addr)} {outer : List Env} {A₀ : Around} {base h₀ : Heap} {L : Addr} {m : Str → Option Value} {s : Shared} {Q E : Value → Shared → Prop}
    (hx : x.length ≤ 40) (hy : y.length = x.length) (hmx : 0 ≤ mx ∧ mx ≤ 100) (hB : Below A₀ base outer h₀) (F : Fr h₀ L s.heap m) (hX : (hd.heap_39 w.params).In h₀) (N : News h₀ L s.heap news) (hT : Top hd.view_39 (looseW hd.view_39 []) mean mg mb h₀) (hcs : cs.kind = .function)
    (hdp : dp + 4 < recursionLimit) (hun : un + 32 < cLine)
    (hret : ∀ (t : Tok) (h' : Heap) (tk' : Nat), Fr h₀ L h' m → News h₀ L h' news → Q (.int (levP x y mx) t) { s with heap := h', toks := tk' }) :
    wpAny (model PySem.Challenge.rw_pg0136_01.row.prog w) (ktrTop dp un gd cn cs L a ccd cl outer) (call (.ref 28) [.str x tx, .str y ty, .int mx tm]) Q E s := by
  w_top off
  revert hX; k_fill; intro hX
  refine wpAny_call ?_
  k_dflt cell_enter
  rename Fr _ _ _ _ => F
  refine forget F [(Str.ofString "a", .str x tx), (Str.ofString "b", .str y ty), (Str.ofString "max_cost", .int mx tm)] (fa3 rfl rfl rfl) ?_
  clear F
  intro u F
  dsimp only [kstB] at F
  k_steps
  · refine cb_retI hret ?_ (by assumption) (by assumption)
    have e : (x == y) = true := by assumption
    exact (if_pos (by simpa using e)).symm
  have hxy : ¬ x = y := by
    have e : (x == y) = false := by assumption
    simpa using e
  refine go ?_
  rename Fr _ _ _ _ => F
  rename News _ _ _ _ => N
  refine cutN (σ := Int × Tok) (fun _ => news) (fun c => [(Str.ofString "a", .str x tx), (Str.ofString "b", .str y ty), (Str.ofString "max_cost", .int mx tm), (Str.ofString "pre", .int c.1 c.2)]) (fun c => 0 ≤ c.1 ∧ c.1 ≤ x.length ∧ Hold (c.1 = pre1 x y (x.length + 1) 0)) F ?_ ?_
  · refine' wh (σ := Int × Tok) (fun _ => news) (fun c => [(Str.ofString "a", .str x tx), (Str.ofString "b", .str y ty), (Str.ofString "max_cost", .int mx tm), (Str.ofString "pre", .int c.1 c.2)]) (fun c => 0 ≤ c.1 ∧ c.1 ≤ x.length ∧ Hold (pre1 x y (x.length + 1 - c.1.toNat) c.1 = pre1 x y (x.length + 1) 0)) (fun c => x.length - c.1.toNat) (0, ?t) F N (fa4 rfl rfl rfl rfl) ?hp ?turn
    case hp => exact ⟨Int.le_refl _, by omega, ⟨rfl⟩⟩
    case turn =>
      clear F N
      rintro ⟨p, tp⟩ u h tk ⟨h0, hpx, ⟨hrem⟩⟩ F N
      dsimp only at *
      dsimp only [kstB] at F
      k_steps
      · have e1 : (Txt.slice x (some p) none).length ≠ 0 := by omega
        have e2 : (Txt.slice y (some p) none).length ≠ 0 := by omega
        have e3 : (Txt.item x p == Txt.item y p) = true := by assumption
        refine go ?_
        refine wh_end (p + 1, _) (by assumption) (by assumption) (fun _ h => h) (fa4 rfl rfl rfl rfl) ?_ ?_
        · refine ⟨by show 0 ≤ p + 1; omega, by show p + 1 ≤ _; omega, ⟨?_⟩⟩
          show pre1 x y (x.length + 1 - (p + 1).toNat) (p + 1) = _
          rw [← hrem, show x.length + 1 - p.toNat = (x.length + 1 - (p + 1).toNat) + 1 by omega, pre1_go e1 e2 e3]
        · show x.length - (p + 1).toNat < x.length - p.toNat
          omega
      all_goals refine go ?_
      all_goals refine cutN_next (p, tp) (by assumption) (by assumption) (fun _ h => h) (fa4 rfl rfl rfl rfl) ⟨h0, hpx, ⟨?_⟩⟩
      · have e3 : (Txt.item x p == Txt.item y p) = false := by assumption
        exact (pre1_s3 e3).symm.trans hrem
      · have e2 : (Txt.slice y (some p) none).length = 0 := by omega
        exact (pre1_s2 e2).symm.trans hrem
      · have e1 : (Txt.slice x (some p) none).length = 0 := by omega
        exact (pre1_s1 e1).symm.trans hrem
  · clear F N
    rintro ⟨p, tp⟩ u h tk ⟨h0, hpx, hpre⟩ F N
    dsimp only at *
    dsimp only [kstB] at F
    k_steps
    refine go ?_
    rename Fr _ _ _ _ => F
    rename News _ _ _ _ => N
    have la := len_sn x p h0 hpx
    have lb := len_sn y p h0 (by omega)
    rw [hy] at lb
    generalize hta : Txt.slice x (some p) none = a at *
    generalize htb : Txt.slice y (some p) none = b at *
    have hl : b.length = a.length := by omega
    have hl40 : a.length ≤ 40 := by omega
    refine cutN (σ := Int × Tok × Tok × Tok) (fun _ => news) (fun c => [(Str.ofString "a", .str a c.2.1), (Str.ofString "b", .str b c.2.2.1), (Str.ofString "max_cost", .int mx tm), (Str.ofString "post", .int c.1 c.2.2.2)]) (fun c => c.1 ≤ 0 ∧ -(a.length : Int) ≤ c.1 ∧ Hold (c.1 = post1 a b (a.length + 1) 0)) F ?_ ?_
    · refine' wh (σ := Int × Tok × Tok × Tok) (fun _ => news) (fun c => [(Str.ofString "a", .str a c.2.1), (Str.ofString "b", .str b c.2.2.1), (Str.ofString "max_cost", .int mx tm), (Str.ofString "post", .int c.1 c.2.2.2)]) (fun c => c.1 ≤ 0 ∧ -(a.length : Int) ≤ c.1 ∧ Hold (post1 a b (a.length + 1 - (-c.1).toNat) c.1 = post1 a b (a.length + 1) 0)) (fun c => a.length - (-c.1).toNat) (0, ?t1, ?t2, ?t3) F N (fa4 rfl rfl rfl rfl) ?hp ?turn
      case hp => exact ⟨Int.le_refl _, by show -(a.length : Int) ≤ 0; omega, ⟨rfl⟩⟩
      case turn =>
        clear F N
        rintro ⟨q, ta, tb, tq⟩ u h tk ⟨hq0, hqa, ⟨hrem⟩⟩ F N
        dsimp only at *
        dsimp only [kstB] at F
        rcases Int.lt_or_eq_of_le hq0 with hq | hq
        · have lna := len_ns a q hq hqa
          have lnb := len_ns b q hq (by omega)
          have hca : cutEnd a q = Txt.slice a none (some q) := if_neg (by omega)
          have hcb : cutEnd b q = Txt.slice b none (some q) := if_neg (by omega)
          k_steps
          all_goals refine go ?_
          all_goals first
            | (exfalso; omega)
            | (refine cutN_next (q, ta, tb, tq) (by assumption) (by assumption) (fun _ h => h) (fa4 rfl rfl rfl rfl) ⟨hq0, hqa, ⟨?_⟩⟩
               first
                 | exact (post1_s3 (by assumption)).symm.trans hrem
                 | exact (post1_s2 (by rw [hcb]; omega)).symm.trans hrem
                 | exact (post1_s1 (by rw [hca]; omega)).symm.trans hrem)
            | (refine wh_end (q - 1, ta, tb, _) (by assumption) (by assumption) (fun _ h => h) (fa4 rfl rfl rfl rfl) ⟨by show q - 1 ≤ 0; omega, by show -(a.length : Int) ≤ q - 1; omega, ⟨?_⟩⟩ (by show a.length - (-(q - 1)).toNat < a.length - (-q).toNat; omega)
               show post1 a b (a.length + 1 - (-(q - 1)).toNat) (q - 1) = _
               rw [← hrem, show a.length + 1 - (-q).toNat = (a.length + 1 - (-(q - 1)).toNat) + 1 by omega, post1_go (by rw [hca]; omega) (by rw [hcb]; omega) (by assumption)])
        · subst hq
          have hca : cutEnd a 0 = a := (if_pos rfl).trans (slice_nn a)
          have hcb : cutEnd b 0 = b := (if_pos rfl).trans (slice_nn b)
          k_steps
          all_goals refine go ?_
          all_goals (try simp only [slice_nn] at *)
          all_goals first
            | (exfalso; omega)
            | (refine cutN_next (0, ta, tb, tq) (by assumption) (by assumption) (fun _ h => h) (fa4 rfl rfl rfl rfl) ⟨hq0, hqa, ⟨?_⟩⟩
               first
                 | exact (post1_s3 (by assumption)).symm.trans hrem
                 | exact (post1_s2 (by rw [hcb]; omega)).symm.trans hrem
                 | exact (post1_s1 (by rw [hca]; omega)).symm.trans hrem)
            | (refine wh_end (0 - 1, ta, tb, _) (by assumption) (by assumption) (fun _ h => h) (fa4 rfl rfl rfl rfl) ⟨by show (0 : Int) - 1 ≤ 0; omega, by show -(a.length : Int) ≤ 0 - 1; omega, ⟨?_⟩⟩ (by show a.length - (-(0 - 1 : Int)).toNat < a.length - (-(0 : Int)).toNat; omega)
               show post1 a b (a.length + 1 - (-(0 - 1 : Int)).toNat) (0 - 1) = _
               rw [← hrem, show a.length + 1 - (-(0 : Int)).toNat = (a.length + 1 - (-(0 - 1 : Int)).toNat) + 1 by omega, post1_go (by rw [hca]; omega) (by rw [hcb]; omega) (by assumption)])
    · clear F N
      rintro ⟨q, ta, tb, tq⟩ u h tk ⟨hq0, hqa, hpost⟩ F N
      dsimp only at *
      dsimp only [kstB] at F
      have hlca := len_cutEnd a q hq0 hqa
      have hlcb := len_cutEnd b q hq0 (by omega)
      refine wpAny_execs_cons ?_
      refine cutN (σ := Str × Tok × Tok × Tok) (fun _ => news) (fun c => [(Str.ofString "a", .str c.1 c.2.1), (Str.ofString "b", .str b c.2.2.1), (Str.ofString "max_cost", .int mx tm), (Str.ofString "post", .int q c.2.2.2)]) (fun c => c.1 = cutEnd a q) F ?_ ?_
      · k_steps
        all_goals refine go ?_
        · refine cutN_next (_, _, _, _) (by assumption) (by assumption) (fun _ h => h) (fa4 rfl rfl rfl rfl) ?_
          exact (if_neg (by assumption)).symm
        · refine cutN_next (_, _, _, _) (by assumption) (by assumption) (fun _ h => h) (fa4 rfl rfl rfl rfl) ?_
          exact (if_pos (by assumption)).symm
      · clear F N
        rintro ⟨a', ta', tb', tq'⟩ u h tk hca F N
        dsimp only at hca F N ⊢
        subst hca
        dsimp only [kstB] at F
        generalize hga : cutEnd a q = a' at *
        refine wpAny_execs_cons ?_
        refine cutN (σ := Str × Tok × Tok × Tok) (fun _ => news) (fun c => [(Str.ofString "a", .str a' c.2.1), (Str.ofString "b", .str c.1 c.2.2.1), (Str.ofString "max_cost", .int mx tm)]) (fun c => c.1 = cutEnd b q) F ?_ ?_
        · k_steps
          all_goals refine go ?_
          · refine cutN_next (_, _, _, 0) (by assumption) (by assumption) (fun _ h => h) (fa3 rfl rfl rfl) ?_
            exact (if_neg (by assumption)).symm
          · refine cutN_next (_, _, _, 0) (by assumption) (by assumption) (fun _ h => h) (fa3 rfl rfl rfl) ?_
            exact (if_pos (by assumption)).symm
        · clear F N
          rintro ⟨b', ta'', tb'', _⟩ u h tk hcb F N
          dsimp only at hcb F N ⊢
          subst hcb
          dsimp only [kstB] at F
          generalize hgb : cutEnd b q = b' at *
          refine lev_tail a' b' mx _ _ tm news (by omega) (by omega) hmx (by assumption) F (by assumption) N (by assumption) (by omega) (by omega) (by passes_own) ?_
          intro t h' tk' m' news' F' N' hsub
          dsimp only [qk]
          refine leaveK_ F' N' ?_
          intro kF kN
          refine cb_retI hret ?_ kF (fun p hp => kN p (hsub p hp))
          unfold levP
          rw [if_neg hxy]
          dsimp only
          rw [← hpre.out, hta, htb, ← hpost.out, hga, hgb]
end
end Mine

end
section
open PySem PySem.W PyProof.Rows PySem.Calls PyProof.V
set_option maxRecDepth 100000
set_option maxHeartbeats 0
namespace Mine
/-- what every run keeps: tokens never fall, generators left are bare -/
structure Le (s s' : Shared) : Prop where
  toks : s.toks ≤ s'.toks
  bare : AllBare s.gens → AllBare s'.gens
theorem Le.refl (s : Shared) : Le s s := ⟨Nat.le_refl _, id⟩
theorem Le.trans {a b c : Shared} (x : Le a b) (y : Le b c) : Le a c := ⟨Nat.le_trans x.toks y.toks, fun h => y.bare (x.bare h)⟩
theorem le_gen {s : Shared} {g : Nat} {x : GenState} (hx : x.bare = true) : Le s (s.setGen g x) := by
  refine ⟨Nat.le_refl _, fun h y hy => ?_⟩
  have hy' : y ∈ s.gens.setIfInBounds g x := hy
  rcases Array.mem_or_eq_of_mem_setIfInBounds hy' with q | q
  · exact h y q
  · exact q ▸ hx
theorem runs_le {M : Model} {Γ : PySem.Ctx} {p : Pos} {t : Sem Fin} {fs : List Frame} {s s' : Shared} {e : End} (h : Runs M Γ p t fs s e s') : Le s s' := by
  induction h with
  | done => exact .refl _
  | raise => exact .refl _
  | again _ _ ih => exact ih
  | rule _ ih => exact ih
  | «at» _ ih => exact ih
  | load _ _ ih => exact ih
  | update _ _ ih => exact ⟨ih.toks, ih.bare⟩
  | loadIfAlive _ ih => exact ih
  | point _ ih => exact ih
  | alloc _ ih => exact ⟨ih.toks, ih.bare⟩
  | fresh _ ih => exact ⟨Nat.le_of_succ_le ih.toks, ih.bare⟩
  | ask _ ih => exact ih
  | choose _ _ ih => exact ⟨ih.toks, ih.bare⟩
  | os _ ih => exact ⟨ih.toks, ih.bare⟩
  | handled _ ih => exact ih
  | genState _ _ ih => exact ih
  | stack _ ih => exact ih
  | thread _ ih => exact ih
  | newGen _ ih => exact ⟨ih.toks, fun h => ih.bare (h.push rfl)⟩
  | call _ _ ih1 ih2 => exact ih1.trans ih2
  | callSusp _ ih => exact ih
  | yield => exact .refl _
  | resumeFresh _ _ hq _ ih1 ih2 => exact ((le_gen rfl).trans ih1).trans ((le_gen (End.bare_of_quiet hq)).trans ih2)
  | resumeSuspended _ _ hq _ ih1 ih2 => exact ((le_gen rfl).trans ih1).trans ((le_gen (End.bare_of_quiet hq)).trans ih2)
  | resumeJustStarted _ _ _ ih => exact ih
  | resumeThrowFresh _ _ ih => exact (le_gen rfl).trans ih
  | resumeRunning _ _ ih => exact ih
  | resumeFinished _ _ ih => exact ih
  | segRet _ _ ih1 ih2 => exact ih1.trans ih2
  | segGen _ _ ih1 ih2 => exact ih1.trans ((le_gen rfl).trans ih2)
  | segSuspOut _ _ ih => exact ih
  | segSuspGen _ _ hq _ ih1 ih2 => exact ih1.trans ((le_gen (End.bare_of_quiet hq)).trans ih2)
theorem wakes_le {M : Model} {Γ : PySem.Ctx} {p : Pos} {g : Nat} {r : Resume} {s s' : Shared} {res : GenResult} (h : Wakes M Γ p g r s res s') : Le s s' := by
  unfold Wakes at h
  split at h
  · exact h.elim
  · split at h
    · obtain ⟨e₁, s₁, hr, hq, _, rfl⟩ := h
      exact ((le_gen rfl).trans (runs_le hr)).trans (le_gen (End.bare_of_quiet hq))
    · obtain ⟨_, rfl⟩ := h; exact .refl _
    · obtain ⟨_, rfl⟩ := h; exact le_gen rfl
  · obtain ⟨e₁, s₁, hr, hq, _, rfl⟩ := h
    exact ((le_gen rfl).trans (runs_le hr)).trans (le_gen (End.bare_of_quiet hq))
  · obtain ⟨_, rfl⟩ := h; exact .refl _
  · obtain ⟨_, rfl⟩ := h; exact .refl _
theorem wp_le {α : Type} {M : Model} {Γ : PySem.Ctx} {s₀ : Shared} (t : Sem α) : ∀ {Q : α → Pos → Shared → Prop} {E : Value → Pos → Shared → Prop} {p : Pos} {s : Shared}, Le s₀ s →
    Sem.wp M Γ t (fun a p s' => Le s₀ s' → Q a p s') (fun e p s' => Le s₀ s' → E e p s') p s → Sem.wp M Γ t Q E p s := by
  induction t with
  | pure a => intro Q E p s l h; exact h l
  | raise x => intro Q E p s l h; exact h l
  | unsupported what => intro Q E p s l h; exact h.elim
  | finish x => intro Q E p s l h; exact h.elim
  | register a k => intro Q E p s l h; exact h.elim
  | yield v g l k => intro Q E p s l h; exact h.elim
  | fork c k => intro Q E p s l h; exact h.elim
  | await a f d l k => intro Q E p s l h; exact h.elim
  | rule tag k ih => intro Q E p s l h; exact ih () (Q := Q) (E := E) l h
  | «at» p' k ih => intro Q E p s l h; exact ih () (Q := Q) (E := E) l h
  | load a part k ih => intro Q E p s l h; obtain ⟨o, ho, h⟩ := h; exact ⟨o, ho, ih o (Q := Q) (E := E) l h⟩
  | update a part f k ih => intro Q E p s l h; exact ⟨h.1, ih () (Q := Q) (E := E) ⟨l.toks, l.bare⟩ h.2⟩
  | alloc o k ih => intro Q E p s l h; exact ih _ (Q := Q) (E := E) (s := { s with heap := s.heap.push o }) ⟨l.toks, l.bare⟩ h
  | loadIfAlive a k ih => intro Q E p s l h; exact ih _ (Q := Q) (E := E) l h
  | point q k ih => intro Q E p s l h; exact ih () (Q := Q) (E := E) l h
  | fresh k ih => intro Q E p s l h; exact ih _ (Q := Q) (E := E) (s := { s with toks := s.toks + 1 }) ⟨Nat.le_succ_of_le l.toks, l.bare⟩ h
  | ask k ih => intro Q E p s l h; exact ih _ (Q := Q) (E := E) l h
  | choose src n k ih => intro Q E p s l h; exact ⟨h.1, ih _ (Q := Q) (E := E) ⟨l.toks, l.bare⟩ h.2⟩
  | os q q' k ih => intro Q E p s l h; exact ih _ (Q := Q) (E := E) (s := { s with os := (Os.step s.os q).1 }) ⟨l.toks, l.bare⟩ h
  | call c hh g q k ih =>
    intro Q E p s l h
    obtain ⟨r, s', hr, h⟩ := h
    exact ⟨r, s', hr, ih r (Q := Q) (E := E) (l.trans (runs_le hr)) h⟩
  | handled own k ih => intro Q E p s l h; exact ih _ (Q := Q) (E := E) l h
  | newGen c k ih => intro Q E p s l h; exact ih _ (Q := Q) (E := E) (s := { s with gens := s.gens.push (.fresh c) }) ⟨l.toks, fun b => (l.bare b).push rfl⟩ h
  | genState g k ih => intro Q E p s l h; obtain ⟨st, hg, h⟩ := h; exact ⟨st, hg, ih _ (Q := Q) (E := E) l h⟩
  | resume g r q k ih =>
    intro Q E p s l h
    obtain ⟨res, s', hw, h⟩ := h
    exact ⟨res, s', hw, ih res (Q := Q) (E := E) (l.trans (wakes_le hw)) h⟩
  | stack k ih => intro Q E p s l h; exact ih _ (Q := Q) (E := E) l h
  | thread k ih => intro Q E p s l h; exact ih _ (Q := Q) (E := E) l h
theorem any_le {α : Type} {M : Model} {A : Around} {t : Sem α} {Q : α → Shared → Prop} {E : Value → Shared → Prop} {s : Shared}
    (h : wpAny M A t (fun a s' => Le s s' → Q a s') (fun e s' => Le s s' → E e s') s) : wpAny M A t Q E s := fun Γ p hΓ => wp_le t (.refl s) (h Γ p hΓ)
/-- tokens stay above nought -/
theorem pos {α : Type} {M : Model} {A : Around} {t : Sem α} {Q : α → Shared → Prop} {E : Value → Shared → Prop} {s : Shared} (h0 : 0 < s.toks)
    (h : wpAny M A t (fun a s' => 0 < s'.toks → Q a s') E s) : wpAny M A t Q E s :=
  any_le (wpAny_mono h (fun _ _ q l => q (Nat.lt_of_lt_of_le h0 l.toks)) fun _ _ e _ => e)
theorem replace_pos {prog : Program} {w : World} {A : Around} {E : Value → Shared → Prop} {s : Shared} {x y z : Str} {t u v : Tok} {Q : Value → Shared → Prop} (h0 : 0 < s.toks) (hu : u ≠ 0) (hv : v ≠ 0) (huv : u ≠ v) (hyz : (y == z) = false) (hx : x.length ≤ 1048576) (hz : z.length ≤ 14)
    (hq : ∀ t' k, 0 < k → Q (.str (Txt.replace x y z) t') { s with toks := k }) : wpAny (model prog w) A (call (.builtin "str.replace") [.str x t, .str y u, .str z v]) Q E s :=
  pos h0 (SC.replaceW hu hv huv hyz hx hz fun t' k hk => hq t' k hk)
end Mine

end
section
open PySem PySem.W PyProof.Rows PySem.Calls PyProof.V PySem.Spec
set_option maxRecDepth 100000
set_option maxHeartbeats 0
namespace Mine
theorem genT {α : Type} {M : Model} {A : Around} {t : Sem α} {Q : α → Shared → Prop} {E : Value → Shared → Prop} {h : Heap} {g : Array GenState} {d : Drawn} {n : Nat} {os : OsState} (h0 : 0 < n)
    (x : ∀ tk, 0 < tk → wpAny M A t Q E ⟨h, g, d, tk, os⟩) : wpAny M A t Q E ⟨h, g, d, n, os⟩ := x n h0
section
variable {prog : Program} {w : World} {A : Around} {E : Value → Shared → Prop} {Q : Flow → Shared → Prop} {s : Shared} {env : Env} {h₀ : Heap} {L : Addr}
/-- the while's rule, tokens above nought -/
theorem wh0 {σ : Type} {test : PySem.Expr} {body : List Stmt} {pos : Pos} {m₀ : Str → Option Value} (Led : σ → List (Addr × Obj)) (ps : σ → List (Str × Value)) (P : σ → Prop) (μ : σ → Nat) (c₀ : σ) (h0 : 0 < s.toks)
    (F : Fr h₀ L s.heap m₀) (N : News h₀ L s.heap (Led c₀)) (hk : ∀ p ∈ ps c₀, m₀ p.1 = some p.2) (hp : P c₀)
    (turn : ∀ (c : σ) (u : Str → Option Value) h tk, 0 < tk → P c → Fr h₀ L h (kstB u (ps c)) → News h₀ L h (Led c) →
      wpAny (model prog w) A (isTrue test env (eval test env)) (fun b s₂ => 0 < s₂.toks →
        if b = true then wpAny (model prog w) A (execs body env) (WhPost h₀ L s Led ps P μ Q c) E s₂ else Q .next s₂) E { s with heap := h, toks := tk })
    (hE : PassesOwn (model prog w) A env E := by passes_own) :
    wpAny (model prog w) A (exec (.While test body [] pos) env) Q E s := by
  refine wpAny_While (codeAny_whileLoop (fun n s' => ∃ (c : σ) (h₁ : Heap) (tk₁ : Nat) (m₁ : Str → Option Value), s' = { s with heap := h₁, toks := tk₁ } ∧ 0 < tk₁ ∧ Fr h₀ L h₁ m₁ ∧ News h₀ L h₁ (Led c) ∧ (∀ p ∈ ps c, m₁ p.1 = some p.2) ∧ P c ∧ μ c = n) ?_ (μ c₀) ⟨c₀, s.heap, s.toks, m₀, rfl, h0, F, N, hk, hp, rfl⟩)
  rintro n s' ⟨c, h₁, tk₁, m₁, rfl, h1, F₁, N₁, hk₁, hp₁, rfl⟩
  have key : wpAny (model prog w) A (isTrue test env (eval test env)) (fun b s₂ => 0 < s₂.toks ∧
        if b = true then wpAny (model prog w) A (execs body env) (WhPost h₀ L s Led ps P μ Q c) E s₂ else Q .next s₂) E { s with heap := h₁, toks := tk₁ } :=
    Mine.pos (s := { s with heap := h₁, toks := tk₁ }) h1 (wpAny_mono (turn c m₁ h₁ tk₁ h1 hp₁ (by rw [mapIs hk₁]; exact F₁) N₁) (fun _ _ q hq => ⟨hq, q hq⟩) fun _ _ e => e)
  refine wpAny_mono key (fun b s₂ h₂ => ?_) hE
  obtain ⟨h2, h₂⟩ := h₂
  cases b with
  | false =>
    simp only [Bool.false_eq_true, if_false] at h₂ ⊢
    exact wpAny_execs_nil h₂
  | true =>
    simp only [if_true] at h₂ ⊢
    refine wpAny_mono (Mine.pos h2 (wpAny_mono h₂ (fun f s₃ q (hq : 0 < s₃.toks) => (And.intro hq q : 0 < s₃.toks ∧ WhPost h₀ L s Led ps P μ Q c f s₃)) fun _ _ e => e)) (fun f s₃ h₃ => ?_) hE
    obtain ⟨h3, q⟩ := h₃
    unfold WhPost at q
    cases f with
    | ret v => exact q
    | brk => exact q
    | next =>
      simp only at q
      unfold WhEnd at q
      obtain ⟨c', h', tk', m', news', rfl, F', N', hn, hk9, hp9, hm9⟩ := q
      exact ⟨μ c', hm9, c', h', tk', m', rfl, h3, F', fun p hp => N' p (hn p hp), hk9, hp9, rfl⟩
    | cont =>
      simp only at q
      unfold WhEnd at q
      obtain ⟨c', h', tk', m', news', rfl, F', N', hn, hk9, hp9, hm9⟩ := q
      exact ⟨μ c', hm9, c', h', tk', m', rfl, h3, F', fun p hp => N' p (hn p hp), hk9, hp9, rfl⟩
end
end Mine

end
section
open PySem PySem.W PyProof.Rows PySem.Calls PyProof.V PySem.Spec
set_option maxRecDepth 100000
set_option maxHeartbeats 0
namespace Mine
section
variable {prog : Program} {w : World} {A : Around} {E : Value → Shared → Prop} {Q : Flow → Shared → Prop} {s : Shared} {env : Env} {h₀ : Heap} {L : Addr}
@[irreducible] def PrEnd {σ : Type} (h₀ : Heap) (L : Addr) (wr : List Addr) (own : List (Addr × Obj)) (s₁ : Shared) (Led : σ → List (Addr × Obj)) (ps : σ → List (Str × Value)) (P : σ → Prop) (s₂ : Shared) : Prop :=
  ∃ (c' : σ) (h' : Heap) (tk : Nat) (m' : Str → Option Value) (news' : List (Addr × Obj)), s₂ = { s₁ with heap := h', toks := tk } ∧ Fr h₀ L h' m' ∧ News h₀ L h' news' ∧ (∀ p ∈ own, p ∈ news') ∧ (∀ p ∈ Led c', p ∈ news') ∧ (∀ p ∈ Led c', p.1 ∉ wr) ∧ (∀ p ∈ ps c', m' p.1 = some p.2) ∧ P c'
@[irreducible] def PrPost {σ : Type} (h₀ : Heap) (L : Addr) (wr : List Addr) (own : List (Addr × Obj)) (s₁ : Shared) (Led : σ → List (Addr × Obj)) (ps : σ → List (Str × Value)) (P : σ → Prop) (Q : Flow → Shared → Prop) (f : Flow) (s₂ : Shared) : Prop :=
  match f with
  | .ret v => Q (.ret v) s₂
  | .brk => Q .next s₂
  | _ => PrEnd h₀ L wr own s₁ Led ps P s₂
theorem pr_end {σ : Type} {wr : List Addr} {own : List (Addr × Obj)} {s₁ : Shared} {Led : σ → List (Addr × Obj)} {ps : σ → List (Str × Value)} {P : σ → Prop} {m' : Str → Option Value} {h' : Heap} {tk : Nat} {news' : List (Addr × Obj)} (c' : σ)
    (F : Fr h₀ L h' m') (N : News h₀ L h' news') (ho : ∀ p ∈ own, p ∈ news') (hn : ∀ p ∈ Led c', p ∈ news') (hw : ∀ p ∈ Led c', p.1 ∉ wr) (hk : ∀ p ∈ ps c', m' p.1 = some p.2) (hp : P c') :
    PrPost h₀ L wr own s₁ Led ps P Q .next { s₁ with heap := h', toks := tk } := by
  unfold PrPost PrEnd
  exact ⟨c', h', tk, m', news', rfl, F, N, ho, hn, hw, hk, hp⟩
theorem pr_ret {σ : Type} {wr : List Addr} {own : List (Addr × Obj)} {s₁ s₂ : Shared} {Led : σ → List (Addr × Obj)} {ps : σ → List (Str × Value)} {P : σ → Prop} {v : Value} (h : Q (.ret v) s₂) : PrPost h₀ L wr own s₁ Led ps P Q (.ret v) s₂ := by
  unfold PrPost
  exact h
theorem prEnd_out {σ : Type} {wr : List Addr} {own : List (Addr × Obj)} {s₁ s₂ : Shared} {Led : σ → List (Addr × Obj)} {ps : σ → List (Str × Value)} {P : σ → Prop} (h : PrEnd h₀ L wr own s₁ Led ps P s₂) :
  ∃ (c' : σ) (h' : Heap) (tk : Nat) (m' : Str → Option Value) (news' : List (Addr × Obj)), s₂ = { s₁ with heap := h', toks := tk } ∧ Fr h₀ L h' m' ∧ News h₀ L h' news' ∧ (∀ p ∈ own, p ∈ news') ∧ (∀ p ∈ Led c', p ∈ news') ∧ (∀ p ∈ Led c', p.1 ∉ wr) ∧ (∀ p ∈ ps c', m' p.1 = some p.2) ∧ P c' := by
  unfold PrEnd at h; exact h

/-- a for over pairs: its ledger may turn -/
theorem loop_pair {σ : Type} {R : Result → Shared → Prop} {xi xc : Str} {pk pv pt : Pos} {x1 : Nat} {body : List Stmt} {I : Addr} {fp wr : List Addr} {n : Nat} {Pt : Nat → Array Value → Prop} {St : Nat → Heap → Prop} {Mid : Nat → Addr → Heap → Prop}
    {P2 : Nat → Value → Value → Prop} {m₀ : Str → Option Value} (Led : σ → List (Addr × Obj)) (ps : σ → List (Str × Value)) (P : Nat → σ → Prop) (c₀ : σ) (h0 : 0 < s.toks) (hh : A.handled = none) (W : WalksT prog w A I fp wr n Pt St Mid) (h2 : ∀ i vals, Pt i vals → ∃ v0 v1, vals = #[v0, v1] ∧ P2 i v0 v1)
    (hxi : env.kindOf xi = some .local) (hxc : env.kindOf xc = some .local)
    (hp : (env.scope.kind == .class || (env.scope.kind == .module && env.locals != env.globals)) = false)
    (hLf : env.locals ∉ fp) (hwr : ∀ b ∈ wr, h₀.get? b = none) (hnw : ∀ p ∈ Led c₀, p.1 ∉ wr)
    (hst : St 0 s.heap) (F : Fr h₀ env.locals s.heap m₀) (N : News h₀ env.locals s.heap (Led c₀)) (hk : ∀ p ∈ ps c₀, m₀ p.1 = some p.2) (hP : P 0 c₀)
    (turn : ∀ (c : σ) (i : Nat) (v0 v1 : Value) (u : Str → Option Value) (h : Heap) (tk : Nat) (own : List (Addr × Obj)), i < n → P2 i v0 v1 → 0 < tk → P i c → (∀ p ∈ own, p.1 ∈ fp) → St (i + 1) h → (∀ b ∈ fp, ∀ o, h₀.get? b = none → h.get? b = some o → (b, o) ∈ own) →
      Fr h₀ env.locals h (fun y => if y = xc then some v1 else if y = xi then some v0 else kstB u (ps c) y) → News h₀ env.locals h (Led c ++ own) →
      wpAny (model prog w) A (execs body env) (PrPost h₀ env.locals wr own { s with heap := h, toks := tk } Led ps (P (i + 1)) (fun f s' => R (.ok f) s')) (notedBy (model prog w) A env fun e s' => R (.error e) s') { s with heap := h, toks := tk })
    (done : ∀ (c : σ) (u : Str → Option Value) (h : Heap) (tk : Nat), 0 < tk → P n c → Fr h₀ env.locals h (kstB u (ps c)) → News h₀ env.locals h (Led c) → R (.ok .next) { s with heap := h, toks := tk }) :
    codeAny (model prog w) A (.forLoop (.Tuple [.Name xi pk, .Name xc pv] x1 pt) (.ref I) body [] env) R s := by
  have hLw : env.locals ∉ wr := fun h => hLf (W.sub _ h)
  have old : ∀ b o, h₀.get? b = some o → b ∉ wr := fun b o e hb => by rw [hwr b hb] at e; cases e
  refine codeAny_forLoop_any
    (fun k s' => ∃ (c : σ) (h' : Heap) (tk : Nat) (m' : Str → Option Value) (i : Nat), s' = { s with heap := h', toks := tk } ∧ 0 < tk ∧ St i h' ∧ Fr h₀ env.locals h' m' ∧ News h₀ env.locals h' (Led c) ∧ (∀ p ∈ Led c, p.1 ∉ wr) ∧ (∀ p ∈ ps c, m' p.1 = some p.2) ∧ P i c ∧ i ≤ n ∧ k = n + 1 - i) ?_ (n + 1)
    ⟨c₀, s.heap, s.toks, m₀, 0, rfl, h0, hst, F, N, hnw, hk, hP, Nat.zero_le _, rfl⟩
  rintro k s' ⟨c, H, tk, m', i, rfl, htk, hst', F', N', hnw', hk', hPc, hi, rfl⟩
  have next : ∀ h₁ : Heap, (∀ b o, b ∉ wr → H.get? b = some o → h₁.get? b = some o) → Fr h₀ env.locals h₁ m' ∧ News h₀ env.locals h₁ (Led c) := fun h₁ hk₁ =>
    ⟨⟨F'.ns.at' fun o e => hk₁ _ o hLw e, fun b o e => hk₁ b o (old b o e) (F'.keep b o e), F'.above⟩, fun p hp => ⟨hk₁ _ _ (hnw' p hp) (N' p hp).1, (N' p hp).2⟩⟩
  refine Mine.pos (s := { s with heap := H, toks := tk }) htk ?_
  by_cases hlt : i < n
  · refine W.item i _ _ _ hlt hst' fun T vals h₁ tk₁ hPt _ hT hMid hk₁ htk₁ => ?_
    obtain ⟨v0, v1, rfl, hP2⟩ := h2 i vals hPt
    refine W.go _ x1 pt i T _ _ _ hMid fun h₂ hst₂ hk₂ => ?_
    have ht₂ : h₂.IsTuple T #[v0, v1] := hT.at fun o e => hk₂ T o (W.apart i T h₁ hMid) e
    refine Mine.pos (s := { s with heap := h₂, toks := tk₁ }) htk₁ (wpAny_assign_Tuple hh ht₂ rfl rfl fun h₃ hx₃ => ?_)
    replace hx₃ : Heap.ExtBut h₂.objs.size h₂ h₃ := hx₃
    have up₃ : ∀ b o, h₂.get? b = some o → h₃.get? b = some o := fun b o x => hx₃ b o (Nat.ne_of_lt (Heap.lt_size x)) x
    obtain ⟨F₃, N₃⟩ := next h₃ fun b o hb x => up₃ b o (hk₂ b o hb (hk₁ b o hb x))
    show wpAny _ A (do holding [v1] (assign (.Name xi pk) env v0); do holding [] (assign (.Name xc pv) env v1); pure ()) _ _ _
    refine wpAny_bind (wpAny_holding (wpAny_assign_Name (wpAny_storeName_local hxi F₃.ns (fun h₄ hn₄ hs₄ => ?_) hp)))
    replace hs₄ : Heap.SameBut env.locals h₃ h₄ := hs₄
    have F₄ := F₃.set hn₄ hs₄
    refine wpAny_bind (wpAny_holding (wpAny_assign_Name (wpAny_storeName_local hxc F₄.ns (fun h₅ hn₅ hs₅ => wpAny_pure ?_) hp)))
    intro htk₅
    refine genT htk₅ fun tk₅ htk₅ => ?_
    replace hs₅ : Heap.SameBut env.locals h₄ h₅ := hs₅
    have F₅ := F₄.set hn₅ hs₅
    have N₅ : News h₀ env.locals h₅ (Led c) := (N₃.set hs₄).set hs₅
    have hst₅ : St (i + 1) h₅ := W.frame _ _ _ hst₂ fun b hb o e => hs₅.extBut b o (fun q => hLf (q ▸ hb)) (hs₄.extBut b o (fun q => hLf (q ▸ hb)) (up₃ b o e))
    have FF : Fr h₀ env.locals h₅ (fun y => if y = xc then some v1 else if y = xi then some v0 else kstB m' (ps c) y) := by rw [mapIs hk']; exact F₅
    have step := turn c i v0 v1 m' h₅ tk₅ (ownOf h₀ fp h₅) hlt hP2 htk₅ hPc ownOf_sub hst₅ (fun b hb o hn e => mem_ownOf hb hn e) FF (News.append N₅ (news_ownOf hLf))
    have step' := Mine.pos (Q := fun f s₃ => 0 < s₃.toks ∧ PrPost h₀ env.locals wr (ownOf h₀ fp h₅) { s with heap := h₅, toks := tk₅ } Led ps (P (i + 1)) (fun f s' => R (.ok f) s') f s₃) (s := { s with heap := h₅, toks := tk₅ }) htk₅ (wpAny_mono step (fun f s₃ q (hq : 0 < s₃.toks) => And.intro hq q) fun _ _ e => e)
    refine wpAny_mono step' (fun f s₃ h₆ => ?_) fun _ _ e => e
    obtain ⟨h7, h₆⟩ := h₆
    unfold PrPost at h₆
    have fin : PrEnd h₀ env.locals wr (ownOf h₀ fp h₅) { s with heap := h₅, toks := tk₅ } Led ps (P (i + 1)) s₃ → ∃ m, m < n + 1 - i ∧ ∃ (c : σ) (h' : Heap) (tk : Nat) (m' : Str → Option Value) (i : Nat), s₃ = { s with heap := h', toks := tk } ∧ 0 < tk ∧ St i h' ∧ Fr h₀ env.locals h' m' ∧ News h₀ env.locals h' (Led c) ∧ (∀ p ∈ Led c, p.1 ∉ wr) ∧ (∀ p ∈ ps c, m' p.1 = some p.2) ∧ P i c ∧ i ≤ n ∧ m = n + 1 - i := by
      intro x
      obtain ⟨c', h₆', tk₆, m₂, news₂, rfl, F₆, N₆, ho₆, hn₆, hw₆, hk₆, hp₆⟩ := prEnd_out x
      refine ⟨n + 1 - (i + 1), by omega, c', h₆', tk₆, m₂, i + 1, rfl, h7, ?_, F₆, fun p hp => N₆ p (hn₆ p hp), hw₆, hk₆, hp₆, hlt, rfl⟩
      refine W.frame _ _ _ hst₅ fun b hb o e => ?_
      cases hn : h₀.get? b with
      | some o₀ =>
        have : o₀ = o := by have q := F₅.keep b o₀ hn; rw [e] at q; exact (Option.some.inj q).symm
        exact this ▸ F₆.keep b o₀ hn
      | none => exact (N₆ _ (ho₆ _ (mem_ownOf hb hn e))).1
    cases f with
    | ret v => exact h₆
    | brk => exact h₆
    | cont => exact fin h₆
    | next => exact fin h₆
  · have hin : i = n := by omega
    subst hin
    refine W.done _ _ _ hst' fun h₁ tk₁ hk₁ htk₁ => wpAny_execs_nil ?_
    obtain ⟨F₁, N₁⟩ := next h₁ hk₁
    exact done c m' h₁ tk₁ htk₁ hPc (by rw [mapIs hk']; exact F₁) N₁
/-- for i, c in enumerate(x), x plain ascii -/
theorem enum_loop {σ : Type} {xi xc : Str} {pk pv pt : Pos} {x1 : Nat} {body : List Stmt} {x : Str} {t : Tok} {m₀ : Str → Option Value} (Led : σ → List (Addr × Obj)) (ps : σ → List (Str × Value)) (P : Nat → σ → Prop) (c₀ : σ) (h0 : 0 < s.toks) (hh : A.handled = none) (hasc : x.cps.all (· < 128) = true)
    (hxi : env.kindOf xi = some .local) (hxc : env.kindOf xc = some .local)
    (hp : (env.scope.kind == .class || (env.scope.kind == .module && env.locals != env.globals)) = false)
    (F : Fr h₀ env.locals s.heap m₀) (N : News h₀ env.locals s.heap (Led c₀)) (hk : ∀ p ∈ ps c₀, m₀ p.1 = some p.2) (hP : P 0 c₀)
    (turn : ∀ (c : σ) (i : Nat) (cc : Nat) (t0 t1 : Tok) (u : Str → Option Value) (h : Heap) (tk : Nat) (own : List (Addr × Obj)), x.cps[i]? = some cc → 0 < tk → P i c →
      (∃ oe, (s.heap.objs.size + 1, oe) ∈ own ∧ oe.cls = .type "enumerate") → (∃ oi, (s.heap.objs.size, oi) ∈ own ∧ oi.cls = .type "str_ascii_iterator") →
      Fr h₀ env.locals h (fun y => if y = xc then some (.str ⟨#[cc]⟩ t1) else if y = xi then some (.int i t0) else kstB u (ps c) y) → News h₀ env.locals h (Led c ++ own) →
      wpAny (model prog w) A (execs body env) (PrPost h₀ env.locals [s.heap.objs.size + 1, s.heap.objs.size] own { s with heap := h, toks := tk } Led ps (P (i + 1)) Q) E { s with heap := h, toks := tk })
    (done : ∀ (c : σ) (u : Str → Option Value) (h : Heap) (tk : Nat), 0 < tk → P x.cps.size c → Fr h₀ env.locals h (kstB u (ps c)) → News h₀ env.locals h (Led c) → Q .next { s with heap := h, toks := tk })
    (hE : PassesOwn (model prog w) A env E := by passes_own) :
    wpAny (model prog w) A (call (.type "enumerate") [.str x t]) (fun xv s₁ => wpAny (model prog w) A (pyIter xv) (fun it s₂ =>
      codeAny (model prog w) A (.forLoop (.Tuple [.Name xi pk, .Name xc pv] x1 pt) it body [] env) (fun r s' => match r with | .ok f => Q f s' | .error e => cameBackBy (model prog w) A env E e s') s₂) E s₁) E s := by
  have hLs : env.locals < s.heap.objs.size := F.ns.lt
  have hab : h₀.objs.size ≤ env.locals := F.above
  refine call_enumerate_str fun h' he hit hsz hkp => ?_
  have hty : strIterType x = "str_ascii_iterator" := by unfold strIterType; rw [hasc]; rfl
  rw [hty] at hit
  have F' : Fr h₀ env.locals h' m₀ := ⟨F.ns.keeps hkp, fun b o e => hkp b o (F.keep b o e), F.above⟩
  have N' : News h₀ env.locals h' (Led c₀) := fun p hp => ⟨hkp _ _ (N p hp).1, (N p hp).2⟩
  refine wpAny_pyIter_enum he ?_
  have fresh : ∀ b, s.heap.objs.size ≤ b → h₀.get? b = none := fun b hb => Heap.get?_none_of_le (Nat.le_trans hab (Nat.le_trans (Nat.le_of_lt hLs) hb))
  have W := WalksT.enumerateD (Draws.strAscii (prog := prog) (w := w) (A := A.in1) hh s.heap.objs.size x t) (s.heap.objs.size + 1) (Nat.succ_ne_self _) (by intro hm; exact Nat.succ_ne_self _ (List.mem_singleton.mp hm)) (List.mem_singleton.mpr rfl)
  refine loop_pair (s := { s with heap := h' }) (P2 := fun i v0 v1 => ∃ cc t0 t1, x.cps[i]? = some cc ∧ v0 = .int i t0 ∧ v1 = .str ⟨#[cc]⟩ t1) Led ps P c₀ h0 hh W ?_ hxi hxc hp ?_ ?_ ?_ ⟨⟨_, he⟩, hit⟩ F' N' hk hP ?_ ?_
  · rintro i vals ⟨t', v, ⟨cc, uu, hc, rfl⟩, rfl⟩
    exact ⟨_, _, rfl, cc, t', uu, hc, rfl, rfl⟩
  · intro hm
    rcases List.mem_cons.mp hm with e | hm
    · exact Nat.ne_of_lt (Nat.lt_succ_of_lt hLs) e
    · exact Nat.ne_of_lt hLs (List.mem_singleton.mp hm)
  · intro b hb
    rcases List.mem_cons.mp hb with rfl | hb
    · exact fresh _ (Nat.le_succ _)
    · rw [List.mem_singleton.mp hb]; exact fresh _ (Nat.le_refl _)
  · intro p hp hb
    have := Heap.lt_size (N p hp).1
    rcases List.mem_cons.mp hb with e | hb
    · rw [e] at this; exact absurd this (Nat.not_lt.mpr (Nat.le_succ _))
    · rw [List.mem_singleton.mp hb] at this; exact absurd this (Nat.lt_irrefl _)
  · rintro c i v0 v1 u h tk own hi ⟨cc, t0, t1, hc, rfl, rfl⟩ htk hPc hown hSt hmem FF NN
    obtain ⟨⟨old, he'⟩, hit'⟩ := hSt
    obtain ⟨oi, hoi, hci, _⟩ := id hit'
    refine wpAny_passesOwn hE (turn c i cc t0 t1 u h tk own hc htk hPc ⟨_, hmem _ (by simp) _ (fresh _ (Nat.le_succ _)) he', rfl⟩ ⟨oi, hmem _ (by simp) _ (fresh _ (Nat.le_refl _)) hoi, hci⟩ FF NN)
  · intro c u h tk htk hPc FF NN
    exact done c u h tk htk hPc FF NN
end
end Mine

end
section
open PySem PySem.W PyProof.Rows PySem.Calls PyProof.V PySem.Spec
set_option maxRecDepth 100000
set_option maxHeartbeats 0
namespace Mine
def dressP (x : Str) (b : Bool) : Str := if b = true then Txt.replace (Txt.replace x (Str.ofString "(") (Str.ofString "a")) (Str.ofString ")") (Str.ofString "A") else x
/-- one striking out of () -/
def strike (x : Str) : Str := Txt.replace x (Str.ofString "()") (Str.ofString "")
def closesGo : Nat → Str → Bool
  | 0, x => x == Str.ofString ""
  | n + 1, x => if Txt.contains x (Str.ofString "()") = true then closesGo n (strike x) else x == Str.ofString ""
def goodGo : Nat → Str → Bool
  | 0, x => decide (x.length ≤ 40) && !Txt.contains x (Str.ofString "()")
  | n + 1, x => decide (x.length ≤ 40) && (!Txt.contains x (Str.ofString "()") || goodGo n (strike x))
theorem good_len {n : Nat} {x : Str} (h : goodGo n x = true) : x.length ≤ 40 := by
  cases n <;> simp [goodGo] at h <;> exact h.1
theorem closes_no {n : Nat} {x : Str} (h : Txt.contains x (Str.ofString "()") = false) : closesGo n x = (x == Str.ofString "") := by
  cases n with
  | zero => rfl
  | succ n => rw [closesGo, h, if_neg Bool.false_ne_true]
theorem good_go {n : Nat} {x : Str} (h : goodGo n x = true) (hc : Txt.contains x (Str.ofString "()") = true) : ∃ k, n = k + 1 ∧ goodGo k (strike x) = true ∧ closesGo n x = closesGo k (strike x) := by
  cases n with
  | zero => simp [goodGo, hc] at h
  | succ n =>
    refine ⟨n, rfl, ?_, ?_⟩
    · simpa [goodGo, hc] using (by simpa [goodGo, hc] using h : x.length ≤ 40 ∧ goodGo n (strike x) = true).2
    · rw [closesGo, if_pos hc]
section
local macro_rules | `(tactic| walk_at "execs cons") => `(tactic| (k_here; (fail_if_success (fail_if_success k_gentoks)); refine genT (by omega) ?_; intro tk0 htk0))
local macro_rules | `(tactic| walk_at "execs nil") => `(tactic| (k_here; (fail_if_success (fail_if_success k_gentoks)); refine genT (by omega) ?_; intro tk0 htk0))
local macro_rules | `(tactic| walk_at "call builtin:str.replace") => `(tactic| ((try dsimp only); refine replace_pos (by first | assumption | omega | (dsimp only; omega)) (by first | assumption | omega | ((show @Ne Nat _ _); omega) | ((show @Ne Nat _ _); dsimp only; omega)) (by first | assumption | omega | ((show @Ne Nat _ _); omega) | ((show @Ne Nat _ _); dsimp only; omega)) (by first | assumption | omega | ((show @Ne Nat _ _); omega) | ((show @Ne Nat _ _); dsimp only; omega)) (by decide) (by omega) (by decide) ?_; intro _ _ _))
theorem dress_call {w : World} {mg mb : Str → Option Value} {mean : ExcName → Option Value} {x : Str} {b : Bool} {tx : Tok} {news : List (Addr × Obj)}
    {dp un : Nat} {gd : Option (List Code)} {cn : Str} {cs : Scope} {a : Addr} {ccd : Value} {cl : List (Str × Addr)} {outer : List Env} {A₀ : Around} {base h₀ : Heap} {L : Addr} {m : Str → Option Value} {s : Shared} {Q E : Value → Shared → Prop}
    (hx : x.length ≤ 40) (hx2 : (Txt.replace x (Str.ofString "(") (Str.ofString "a")).length ≤ 40) (h0 : 0 < s.toks) (hB : Below A₀ base outer h₀) (F : Fr h₀ L s.heap m) (hX : (hd.heap_39 w.params).In h₀) (N : News h₀ L s.heap news) (hT : Top hd.view_39 (looseW hd.view_39 []) mean mg mb h₀) (hcs : cs.kind = .function)
    (hdp : dp + 4 < recursionLimit) (hun : un + 32 < cLine)
    (hret : ∀ (t : Tok) (h' : Heap) (tk' : Nat), Fr h₀ L h' m → News h₀ L h' news → Q (.str (dressP x b) t) { s with heap := h', toks := tk' }) :
    wpAny (model PySem.Challenge.rw_pg0136_01.row.prog w) (ktrTop dp un gd cn cs L a ccd cl outer) (call (.ref 82) [.str x tx, .bool b]) Q E s := by
  w_top off
  revert hX; k_fill; intro hX
  refine wpAny_call ?_
  k_dflt cell_enter
  k_steps
  · refine cb_retS hret ?_ (by assumption) (by assumption)
    have e : b = true := by assumption
    exact (if_pos e).symm
  · refine cb_retS hret ?_ (by assumption) (by assumption)
    have e : b = false := by assumption
    subst e
    exact (if_neg Bool.false_ne_true).symm

local macro_rules | `(tactic| walk_at "exec While Compare cons nil") => `(tactic| (refine halt ?_))
local macro_rules | `(tactic| walk_at "WhPost") => `(tactic| (refine halt ?_))
local macro_rules | `(tactic| walk_at "CutN") => `(tactic| (refine halt ?_))
theorem closes_call {w : World} {mg mb : Str → Option Value} {mean : ExcName → Option Value} {x : Str} {tx : Tok} {news : List (Addr × Obj)}
    {dp un : Nat} {gd : Option (List Code)} {cn : Str} {cs : Scope} {a : Addr} {ccd : Value} {cl : List (Str × Addr)} {outer : List Env} {A₀ : Around} {base h₀ : Heap} {L : Addr} {m : Str → Option Value} {s : Shared} {Q E : Value → Shared → Prop}
    (hg : goodGo 3 x = true) (h0 : 0 < s.toks) (hB : Below A₀ base outer h₀) (F : Fr h₀ L s.heap m) (hX : (hd.heap_39 w.params).In h₀) (N : News h₀ L s.heap news) (hT : Top hd.view_39 (looseW hd.view_39 []) mean mg mb h₀) (hcs : cs.kind = .function)
    (hdp : dp + 4 < recursionLimit) (hun : un + 32 < cLine)
    (hret : ∀ (h' : Heap) (tk' : Nat), Fr h₀ L h' m → News h₀ L h' news → Q (.bool (closesGo 3 x)) { s with heap := h', toks := tk' }) :
    wpAny (model PySem.Challenge.rw_pg0136_01.row.prog w) (ktrTop dp un gd cn cs L a ccd cl outer) (call (.ref 68) [.str x tx]) Q E s := by
  w_top off
  revert hX; k_fill; intro hX
  refine wpAny_call ?_
  k_dflt cell_enter
  k_steps
  refine go ?_
  rename Fr _ _ _ _ => F'
  rename News _ _ _ _ => N'
  refine cutN (σ := Str × Tok) (fun _ => news) (fun c => [(Str.ofString "row", .str c.1 c.2)]) (fun c => Hold (closesGo 3 x = (c.1 == Str.ofString ""))) F' ?_ ?_
  · refine' wh0 (σ := Str × Tok × Nat) (fun _ => news) (fun c => [(Str.ofString "row", .str c.1 c.2.1)]) (fun c => Hold (goodGo c.2.2 c.1 = true ∧ closesGo c.2.2 c.1 = closesGo 3 x)) (fun c => c.2.2) (x, ?t, 3) (by dsimp only; omega) F' N' (fa1 rfl) ⟨hg, rfl⟩ ?turn
    case turn =>
      clear F F' N N'
      rintro ⟨r, tr, n⟩ u h tk htk ⟨hgd, hrem⟩ F N
      dsimp only at *
      dsimp only [kstB] at F
      have hrl := good_len hgd
      k_steps
      · refine go ?_
        have e : Txt.contains r (Str.ofString "()") = false := congrArg (!·) (by assumption : (Builtin.Str.occurrences r (Str.ofString "()") 0 r.length 1).isEmpty = true)
        exact cutN_next (r, tr) (by assumption) (by assumption) (fun _ h => h) (fa1 rfl) ⟨hrem.symm.trans (closes_no e)⟩
      · refine go ?_
        have e : Txt.contains r (Str.ofString "()") = true := congrArg (!·) (by assumption : (Builtin.Str.occurrences r (Str.ofString "()") 0 r.length 1).isEmpty = false)
        obtain ⟨k, rfl, hk1, hk2⟩ := good_go hgd e
        exact wh_end (_, _, k) (by assumption) (by assumption) (fun _ h => h) (fa1 rfl) ⟨hk1, hk2.symm.trans hrem⟩ (Nat.lt_succ_self _)
  · clear F F' N N'
    rintro ⟨r, tr⟩ u h tk ⟨hrem⟩ F N
    dsimp only at *
    dsimp only [kstB] at F
    k_steps
    exact cb_retB (fun _ => hret) hrem.symm (by assumption) (by assumption)
end
end Mine

end
section
open PySem PySem.W PyProof.Rows PySem.Calls PyProof.V PySem.Spec
set_option maxRecDepth 100000
set_option maxHeartbeats 0
namespace Mine
def aloneStep (x : Str) (ns : List Int) (i : Nat) : List Int :=
  if (Str.mk #[x.cps.getD i 0] == Str.ofString ")") = true ∧ 0 < ns.length ∧ (Txt.item x (ns.getD (-1 + (ns.length : Int)).toNat 0) == Str.ofString "(") = true then ns.take (ns.length - 1) else ns ++ [(i : Int)]
def aloneGo (x : Str) : Nat → List Int
  | 0 => []
  | i + 1 => aloneStep x (aloneGo x i) i
def aloneP (x : Str) : List Int := aloneGo x x.cps.size
theorem getD_in {ns : List Int} {i n : Nat} (h : ∀ k ∈ ns, 0 ≤ k ∧ k < (i : Int)) (hi : i < n) (j : Nat) : 0 ≤ ns.getD j 0 ∧ ns.getD j 0 < (n : Int) := by
  rw [List.getD_eq_getElem?_getD]
  cases e : ns[j]? with
  | none => exact ⟨Int.le_refl _, by show (0 : Int) < n; omega⟩
  | some v =>
    have := h v (List.mem_of_getElem? e)
    exact ⟨this.1, by show v < (n : Int); omega⟩
theorem alone_mem (x : Str) (i : Nat) : (aloneGo x i).length ≤ i ∧ ∀ n ∈ aloneGo x i, 0 ≤ n ∧ n < (i : Int) := by
  induction i with
  | zero => exact ⟨Nat.le_refl _, fun _ h => nomatch h⟩
  | succ i ih =>
    unfold aloneGo aloneStep
    split
    · refine ⟨?_, fun n h => ?_⟩
      · rw [List.length_take]; omega
      · have := ih.2 n (List.mem_of_mem_take h); omega
    · refine ⟨by rw [List.length_append]; simp only [List.length_cons, List.length_nil]; omega, fun n h => ?_⟩
      rcases List.mem_append.mp h with h | h
      · have := ih.2 n h; omega
      · rw [List.mem_singleton.mp h]; omega
theorem cc_getD {x : Str} {i cc : Nat} (h : x.cps[i]? = some cc) : x.cps.getD i 0 = cc := by
  rw [Array.getD_eq_getD_getElem?, h]; rfl
theorem alone_yes {x : Str} {i cc : Nat} (h : x.cps[i]? = some cc) (a : (Str.mk #[cc] == Str.ofString ")") = true) (b : 0 < (aloneGo x i).length) (c : (Txt.item x ((aloneGo x i).getD (-1 + ((aloneGo x i).length : Int)).toNat 0) == Str.ofString "(") = true) : aloneGo x (i + 1) = (aloneGo x i).take ((aloneGo x i).length - 1) := by
  rw [aloneGo, aloneStep, cc_getD h]; exact if_pos ⟨a, b, c⟩
theorem alone_no1 {x : Str} {i cc : Nat} (h : x.cps[i]? = some cc) (a : (Str.mk #[cc] == Str.ofString ")") = false) : aloneGo x (i + 1) = aloneGo x i ++ [(i : Int)] := by
  rw [aloneGo, aloneStep, cc_getD h]; exact if_neg (fun q => absurd q.1 (by rw [a]; exact Bool.noConfusion))
theorem alone_no2 {x : Str} {i : Nat} (b : ¬ 0 < (aloneGo x i).length) : aloneGo x (i + 1) = aloneGo x i ++ [(i : Int)] := by
  rw [aloneGo, aloneStep]; exact if_neg (fun q => b q.2.1)
theorem alone_no3 {x : Str} {i : Nat} (c : (Txt.item x ((aloneGo x i).getD (-1 + ((aloneGo x i).length : Int)).toNat 0) == Str.ofString "(") = false) : aloneGo x (i + 1) = aloneGo x i ++ [(i : Int)] := by
  rw [aloneGo, aloneStep]; exact if_neg (fun q => absurd q.2.2 (by rw [c]; exact Bool.noConfusion))
structure AS where
  D : Addr
  ns : List Int
  vs : List Value
  k : Nat
theorem wr_off {D : Addr} {o : Obj} {e i : Addr} {oe oi : Obj} {news own : List (Addr × Obj)} (he : (e, oe) ∈ own) (hi : (i, oi) ∈ own) (h : ∀ p ∈ news ++ own, p.1 < D) (hn : ∀ p ∈ news, p.1 < i) (hei : e = i + 1) : ∀ p ∈ (D, o) :: news, p.1 ∉ [e, i] := by
  intro p hp hw
  have h1 : e < D := h _ (List.mem_append_right _ he)
  have h2 : i < D := h _ (List.mem_append_right _ hi)
  rcases List.mem_cons.mp hp with rfl | hp
  · rcases List.mem_cons.mp hw with q | hw
    · exact Nat.ne_of_gt h1 q
    · exact Nat.ne_of_gt h2 (List.mem_singleton.mp hw)
  · have h3 : p.1 < i := hn p hp
    rcases List.mem_cons.mp hw with q | hw
    · exact Nat.ne_of_lt (Nat.lt_succ_of_lt h3) (q.trans hei)
    · exact Nat.ne_of_lt h3 (List.mem_singleton.mp hw)
theorem sub1 {p : Addr × Obj} {a b : Addr × Obj} {l r : List (Addr × Obj)} (h : p ∈ r) : p ∈ a :: b :: (l ++ r) := .tail _ (.tail _ (List.mem_append_right _ h))
theorem sub2 {p : Addr × Obj} {a b : Addr × Obj} {l r : List (Addr × Obj)} (h : p ∈ a :: l) : p ∈ a :: b :: (l ++ r) := by
  rcases List.mem_cons.mp h with rfl | h
  · exact .head _
  · exact .tail _ (.tail _ (List.mem_append_left _ h))
theorem sub3 {p : Addr × Obj} {a b c : Addr × Obj} {l r : List (Addr × Obj)} (h : p ∈ a :: l) : p ∈ a :: b :: c :: (l ++ r) := by
  rcases List.mem_cons.mp h with rfl | h
  · exact .head _
  · exact .tail _ (.tail _ (.tail _ (List.mem_append_left _ h)))
section
local macro_rules | `(tactic| walk_at "execs cons") => `(tactic| (k_here; (fail_if_success (fail_if_success k_gentoks)); refine genT (by omega) ?_; intro tk0 htk0))
local macro_rules | `(tactic| walk_at "execs nil") => `(tactic| (k_here; (fail_if_success (fail_if_success k_gentoks)); refine genT (by omega) ?_; intro tk0 htk0))
local macro_rules | `(tactic| walk_at "exec For Tuple Call cons nil") => `(tactic| (refine halt ?_))
local macro_rules | `(tactic| walk_at "call type:enumerate") => `(tactic| (refine halt ?_))
local macro_rules | `(tactic| walk_at "subscriptTail Name Subscript str int") => `(tactic| (refine item_str (fitsSsize_of (N := 9223372036854775808) (by omega) (by omega) (Int.le_refl _)) (by omega) (by omega) ?_; intro _))
local macro_rules | `(tactic| walk_at "PrPost") => `(tactic| (refine halt ?_))
local macro_rules | `(tactic| walk_at "pad") => `(tactic| skip)
theorem alone_call {w : World} {mg mb : Str → Option Value} {mean : ExcName → Option Value} {x : Str} {tx : Tok} {news : List (Addr × Obj)}
    {dp un : Nat} {gd : Option (List Code)} {cn : Str} {cs : Scope} {a : Addr} {ccd : Value} {cl : List (Str × Addr)} {outer : List Env} {A₀ : Around} {base h₀ : Heap} {L : Addr} {m : Str → Option Value} {s : Shared} {Q E : Value → Shared → Prop}
    (hx : x.length ≤ 40) (hasc : x.cps.all (· < 128) = true) (h0 : 0 < s.toks) (hB : Below A₀ base outer h₀) (F : Fr h₀ L s.heap m) (hX : (hd.heap_39 w.params).In h₀) (N : News h₀ L s.heap news) (hT : Top hd.view_39 (looseW hd.view_39 []) mean mg mb h₀) (hcs : cs.kind = .function)
    (hdp : dp + 4 < recursionLimit) (hun : un + 32 < cLine)
    (hret : ∀ (D : Addr) (vs : List Value) (k : Nat) (h' : Heap) (tk' : Nat), 0 < tk' → IntsAre vs (aloneP x) → Fr h₀ L h' m → News h₀ L h' ((D, W.listOf vs.toArray k) :: news) → Q (.ref D) { s with heap := h', toks := tk' }) :
    wpAny (model PySem.Challenge.rw_pg0136_01.row.prog w) (ktrTop dp un gd cn cs L a ccd cl outer) (call (.ref 75) [.str x tx]) Q E s := by
  w_top off
  revert hX; k_fill; intro hX
  refine wpAny_call ?_
  k_dflt cell_enter
  clear F
  rename Fr _ _ _ _ => F
  refine forget F [(Str.ofString "row", .str x tx)] (fa1 rfl) ?_
  clear F
  intro u F
  dsimp only [kstB] at F
  k_steps
  refine go ?_
  refine wpAny_For ?_
  k_steps
  refine go ?_
  clear N
  rename Fr _ _ _ _ => F
  rename News _ _ _ _ => N
  have hnl := fun p (hp : p ∈ news) => Heap.lt_size (N p (.tail _ hp)).1
  refine enum_loop (σ := AS) (fun c => (c.D, W.listOf c.vs.toArray c.k) :: news) (fun c => [(Str.ofString "row", .str x tx), (Str.ofString "pile", .ref c.D)]) (fun i c => IntsAre c.vs c.ns ∧ Hold (c.ns = aloneGo x i)) ⟨_, [], [], _⟩ (by dsimp only; omega) rfl hasc rfl rfl rfl F N (fa2 rfl rfl) ⟨.nil, ⟨rfl⟩⟩ ?_ ?_
  · clear F N
    rintro ⟨D, ns, vs, k⟩ i cc t0 t1 u h tk own hc htk ⟨hI, ⟨hns⟩⟩ ⟨oe, he, hce⟩ ⟨oi, hi, hci⟩ F N
    dsimp only at *
    dsimp only [kstB] at F
    simp only [List.cons_append] at N
    have hil : i < x.length := (Array.getElem?_eq_some_iff.mp hc).1
    have hvl : vs.length = ns.length := hI.length
    have hmem := alone_mem x i
    rw [← hns] at hmem
    have hv40 : vs.length ≤ 40 := by omega
    have hlast := getD_in hmem.2 hil (-1 + (ns.length : Int)).toNat
    replace hns := Hold.mk hns
    k_steps
    · refine go ?_
      rename Fr _ _ _ _ => F
      rename News _ _ _ _ => N
      rename _ ∧ AllLt _ _ => hlt
      refine pr_end ⟨_, _, _, _⟩ F N (fun p hp => sub1 hp) (fun p hp => sub2 hp) (wr_off he hi (kst_ltOf hlt.2) hnl rfl) (fa2 rfl rfl) ⟨by assumption, ⟨?_⟩⟩
      cases hns.out
      exact (alone_yes hc (by assumption) (by assumption) (by assumption)).symm
    all_goals
      refine go ?_
      rename Fr _ _ _ _ => F
      rename News _ _ _ _ => N
      rename _ ∧ _ ∧ AllLt _ _ => hlt
      refine pr_end ⟨_, _, _, _⟩ F N (fun p hp => .tail _ (sub1 hp)) (fun p hp => sub3 hp) (wr_off he hi (kst_ltOf hlt.2.2) hnl rfl) (fa2 rfl rfl) ⟨by assumption, ⟨?_⟩⟩
      cases hns.out
      first
        | exact (alone_no1 hc (by assumption)).symm
        | exact (alone_no2 (by assumption)).symm
        | exact (alone_no3 (by assumption)).symm
  · clear F N
    rintro ⟨D, ns, vs, k⟩ u h tk htk ⟨hI, ⟨hns⟩⟩ F N
    dsimp only at *
    dsimp only [kstB] at F
    cases hns
    k_steps
    refine hret _ _ _ _ _ htk hI (by assumption) (by assumption)
end
end Mine

end
section
open PySem PySem.W PyProof.Rows PySem.Calls PyProof.V PySem.Spec
set_option maxRecDepth 100000
set_option maxHeartbeats 0
namespace Mine
section
variable {M : Model} {A : Around} {R : GenEnd} {Y : Protocol} {n : Nat} {s₀ : Shared} {c : Code} {fs : List Frame} {s : Shared} {env : Env}
  {K : Flow → Sem Fin} {H : Value → Sem Fin} {gd : Bool → Bool} {lv : List Value → List Value}
abbrev NoE : Value → Shared → Prop := fun _ _ => False
theorem sg_bind {α β : Type} {m : Sem α} {K : α → Sem β} {K' : β → Sem Fin} {H' : Value → Sem Fin} {gd lv}
    (h : wpAny M (A.over c fs) m (fun a s' => Seg M A R Y n s₀ c ((K a).wrap K' H' gd lv) fs s') NoE s) : Seg M A R Y n s₀ c ((m >>= K).wrap K' H' gd lv) fs s :=
  seg_bind_wrap (wpAny_mono h (fun _ _ x => x) fun _ _ e => e.elim)
/-- the frame a for leaves behind -/
def kOf (env : Env) (K : Flow → Sem Fin) (H : Value → Sem Fin) (gd : Bool → Bool) (lv : List Value → List Value) (r : Result) : Sem Fin :=
  ((match r with | .ok f => (.pure f : Sem Flow) | .error e => .raise e).onRaise fun (x : Value) => do
        if (← field x 1) == Value.none then unsupported "frame.own-activation:exception-without-traceback"
        setFlight x env.frame).wrap K H gd lv
theorem sg_For {target iter : PySem.Expr} {body orelse : List Stmt} {pos : Pos}
    (h : wpAny M (A.over c fs) (eval iter env) (fun x s₁ => wpAny M (A.over c fs) (pyIter x) (fun it s₂ => ∀ p, Seg M A R Y n s₀ (.forLoop target it body orelse env) (M.den (.forLoop target it body orelse env)) (.ret (kOf env K H gd lv) none (gd false) (lv []) c p [] :: fs) s₂) NoE s₁) NoE s)
    (hs : ∀ x, foldedSetIterable iter env x = pure x := by intro _; rfl) :
    Seg M A R Y n s₀ c ((exec (.For target iter body orelse pos) env).wrap K H gd lv) fs s := by
  rw [exec_For]
  refine sg_bind (wpAny_standAt (sg_bind (wpAny_mono h (fun x s₁ h₁ => sg_bind (wpAny_of_eq (hs x) (sg_bind (wpAny_standAt (sg_bind (wpAny_holding (wpAny_mono h₁ (fun it s₂ h₂ => seg_call h₂) fun _ _ e => e))))))) fun _ _ e => e)))
theorem sg_If {test : PySem.Expr} {body orelse : List Stmt} {pos : Pos}
    (h : wpAny M (A.over c fs) (isTrue test env (eval test env)) (fun b s₁ => if b = true then Seg M A R Y n s₀ c ((execs body env).wrap K H gd lv) fs s₁ else Seg M A R Y n s₀ c ((execs orelse env).wrap K H gd lv) fs s₁) NoE s) :
    Seg M A R Y n s₀ c ((exec (.If test body orelse pos) env).wrap K H gd lv) fs s := by
  rw [exec_If]
  refine sg_bind (wpAny_standAt (sg_bind (wpAny_mono h (fun b s₁ h₁ => ?_) fun _ _ e => e)))
  cases b with
  | true => exact h₁
  | false => exact h₁
theorem sg_stmt {st : Stmt} {rest : List Stmt}
    (h : wpAny M (A.over c fs) (exec st env) (fun f s₁ => f = .next ∧ Seg M A R Y n s₀ c ((execs rest env).wrap K H gd lv) fs s₁) NoE s) :
    Seg M A R Y n s₀ c ((execs (st :: rest) env).wrap K H gd lv) fs s := by
  refine seg_execs_cons (seg_wrap (wpAny_mono h (fun f s₁ h₁ => ?_) fun _ _ e => e.elim))
  obtain ⟨rfl, h₁⟩ := h₁
  exact h₁
end
section
variable {prog : Program} {w : World} {A : Around} {R : GenEnd} {Y : Protocol} {n : Nat} {s₀ : Shared} {fs : List Frame} {s : Shared} {env : Env}
theorem sg_forLoop {target : PySem.Expr} {it : Value} {body orelse : List Stmt}
    (h : wpAny (model prog w) (A.over (.forLoop target it body orelse env) fs) (pyNext it) (fun r s₁ => match r with
      | none => Seg (model prog w) A R Y n s₀ (.block orelse env) ((model prog w).den (.block orelse env)) fs s₁
      | some v => wpAny (model prog w) (A.over (.forLoop target it body orelse env) fs) (letOwnedTupleGo target it v) (fun _ s₂ =>
          wpAny (model prog w) (A.over (.forLoop target it body orelse env) fs) (assign target env v) (fun _ s₃ => ∀ H, Seg (model prog w) A R Y n s₀ (.forLoop target it body orelse env)
            ((execs body env).wrap (fun f => match f with
            | .next | .cont => .pure (.again (.forLoop target it body orelse env))
            | .brk => .pure (.done .next)
            | .ret v => .pure (.done (.ret v))) H id id) fs s₃) NoE s₂) NoE s₁) NoE s) :
    Seg (model prog w) A R Y n s₀ (.forLoop target it body orelse env) ((model prog w).den (.forLoop target it body orelse env)) fs s := by
  show Seg _ A R Y n s₀ _ ((forTurn target it body orelse env).onRaise (fun x => do noteFrame x env; theTreesLotGoes x)) fs s
  unfold forTurn
  rw [Sem.onRaise_eq_wrap]
  refine sg_bind (wpAny_standAt (sg_bind (wpAny_onRaise (wpAny_mono h (fun r s₁ h₁ => ?_) fun _ _ e => e.elim))))
  cases r with
  | none => exact seg_again rfl h₁
  | some v =>
    refine sg_bind (wpAny_mono h₁ (fun _ s₂ h₂ => sg_bind (wpAny_mono h₂ (fun _ s₃ h₃ => ?_) fun _ _ e => e)) fun _ _ e => e)
    rw [Sem.bind_eq_wrap', Sem.wrap_wrap]
    rw [Sem.wrap_congr (execs body env) _ _ (K' := fun f => match f with
            | .next | .cont => .pure (.again (.forLoop target it body orelse env))
            | .brk => .pure (.done .next)
            | .ret v => .pure (.done (.ret v))) (fun f => by cases f <;> rfl) (fun e => rfl)]
    exact h₃ _
end
end Mine

end
section
open PySem PySem.W PyProof.Rows PySem.Calls PyProof.V PySem.Spec
set_option maxRecDepth 100000
set_option maxHeartbeats 0
set_option linter.unusedVariables false
namespace Mine
abbrev gScope : Scope := { kind := .function, names := [(Str.ofString "addr", .local), (Str.ofString "pos", .local), (Str.ofString "escape", .local), (Str.ofString "ch", .local), (Str.ofString "enumerate", .globalImplicit)], isGenerator := true, isCoroutine := false, more := [] }
abbrev gEnv (C f : Addr) (cd : Value) : Env := envOf (Str.ofString "_iter_escaped_chars") gScope C f cd
def Keep (C : Addr) (h h' : Heap) : Prop := ∀ b o, b ≠ C → h.get? b = some o → h'.get? b = some o
def ownAll (h₀ : Heap) (C : Addr) (h : Heap) : List (Addr × Obj) := ownOf h₀ ((List.range h.objs.size).filter (· != C)) h
theorem news_ownAll {h₀ h : Heap} {C : Addr} : News h₀ C h (ownAll h₀ C h) := news_ownOf (by simp)
theorem keep_of {h₀ h h' : Heap} {C : Addr} {news : List (Addr × Obj)} (k : ∀ b o, h₀.get? b = some o → h.get? b = some o) (k' : ∀ b o, h₀.get? b = some o → h'.get? b = some o) (N : News h₀ C h' news) (hs : ∀ p ∈ ownAll h₀ C h, p ∈ news) : Keep C h h' := by
  intro b o hb e
  cases q : h₀.get? b with
  | some o₀ =>
    have : o₀ = o := by have r := k b o₀ q; rw [e] at r; exact (Option.some.inj r).symm
    exact this ▸ k' b o₀ q
  | none => exact (N _ (hs _ (mem_ownOf (by simpa using ⟨Heap.lt_size e, hb⟩) q e))).1
section
variable {w : World} {mg mb : Str → Option Value} {mean : ExcName → Option Value} {dp un : Nat} {gd : Option (List Code)} {cn : Str} {cs : Scope} {a : Addr} {ccd : Value} {cl : List (Str × Addr)} {outer : List Env} {h₀ : Heap} {L C f : Addr} {cd : Value} {u : Str → Option Value} {s : Shared} {x : Str} {tx : Tok} {p1 p2 p3 p4 p5 : Pos} {k : Nat}
local macro_rules | `(tactic| walk_at "call type:enumerate") => `(tactic| (refine halt ?_))
theorem g_enum {Q E : Value → Shared → Prop} (F : Fr h₀ C s.heap (kstB u [(Str.ofString "addr", .str x tx)])) (hX : (hd.heap_39 w.params).In h₀) (hT : Top hd.view_39 (looseW hd.view_39 []) mean mg mb h₀)
    (h : wpAny (model PySem.Challenge.rw_pg0136_01.row.prog w) (ktrTop dp un gd cn cs L a ccd cl outer) (call (.type "enumerate") [.str x tx]) Q E s) :
    wpAny (model PySem.Challenge.rw_pg0136_01.row.prog w) (ktrTop dp un gd cn cs L a ccd cl outer) (eval (.Call (.Name (Str.ofString "enumerate") p1) [.Name (Str.ofString "addr") p2] [] p3) (gEnv C f cd)) Q E s := by
  w_top off
  have N : News h₀ C s.heap [] := fun _ hp => nomatch hp
  revert hX; k_fill; intro hX
  dsimp only [kstB] at F
  k_steps
  exact go h
theorem g_esc {Q : Bool → Shared → Prop} {E : Value → Shared → Prop} (F : Fr h₀ C s.heap (kstB u [(Str.ofString "escape", .bool false)])) (hX : (hd.heap_39 w.params).In h₀) (hT : Top hd.view_39 (looseW hd.view_39 []) mean mg mb h₀)
    (h : Q false s) :
    wpAny (model PySem.Challenge.rw_pg0136_01.row.prog w) (ktrTop dp un gd cn cs L a ccd cl outer) (isTrue (.Name (Str.ofString "escape") p1) (gEnv C f cd) (eval (.Name (Str.ofString "escape") p1) (gEnv C f cd))) Q E s := by
  w_top off
  have N : News h₀ C s.heap [] := fun _ hp => nomatch hp
  revert hX; k_fill; intro hX
  dsimp only [kstB] at F
  k_steps
  exact h
theorem g_cmp {Q : Bool → Shared → Prop} {E : Value → Shared → Prop} (F : Fr h₀ C s.heap (kstB u [(Str.ofString "ch", .str x tx)])) (hX : (hd.heap_39 w.params).In h₀) (hT : Top hd.view_39 (looseW hd.view_39 []) mean mg mb h₀)
    (h : ∀ tk', Q (x == Str.ofString "\\") { s with toks := tk' }) :
    wpAny (model PySem.Challenge.rw_pg0136_01.row.prog w) (ktrTop dp un gd cn cs L a ccd cl outer) (isTrue (.Compare (.Name (Str.ofString "ch") p1) [.Eq] [.Constant (.str (Str.ofString "\\")) k p2] p3) (gEnv C f cd) (eval (.Compare (.Name (Str.ofString "ch") p1) [.Eq] [.Constant (.str (Str.ofString "\\")) k p2] p3) (gEnv C f cd))) Q E s := by
  w_top off
  have N : News h₀ C s.heap [] := fun _ hp => nomatch hp
  revert hX; k_fill; intro hX
  dsimp only [kstB] at F
  k_steps
  exact (h _)
theorem g_tup {i : Int} {t0 : Tok} {Q E : Value → Shared → Prop} (F : Fr h₀ C s.heap (kstB u [(Str.ofString "pos", .int i t0), (Str.ofString "ch", .str x tx)])) (hX : (hd.heap_39 w.params).In h₀) (hT : Top hd.view_39 (looseW hd.view_39 []) mean mg mb h₀)
    (h : ∀ T h' tk', h'.IsTuple T #[.int i t0, .str x tx] → Fr h₀ C h' (kstB u [(Str.ofString "pos", .int i t0), (Str.ofString "ch", .str x tx)]) → Keep C s.heap h' → Q (.ref T) { s with heap := h', toks := tk' }) :
    wpAny (model PySem.Challenge.rw_pg0136_01.row.prog w) (ktrTop dp un gd cn cs L a ccd cl outer) (eval (.Tuple [.Name (Str.ofString "pos") p1, .Name (Str.ofString "ch") p2] k p3) (gEnv C f cd)) Q E s := by
  w_top off
  have kp := F.keep
  have N : News h₀ C s.heap (ownAll h₀ C s.heap) := news_ownAll
  generalize hW : ownAll h₀ C s.heap = W at N
  revert hX; k_fill; intro hX
  dsimp only [kstB] at F
  k_steps
  rename Fr _ _ _ _ => F
  rename News _ _ _ _ => N
  exact h _ _ _ ⟨_, (N _ (.head _)).1, rfl, _, rfl⟩ F (keep_of kp F.keep N fun p hp => .tail _ (hW ▸ hp))
theorem g_pos {Q : Flow → Shared → Prop} {E : Value → Shared → Prop} (F : Fr h₀ C s.heap (kstB u [(Str.ofString "addr", .str x tx)])) (hX : (hd.heap_39 w.params).In h₀) (hT : Top hd.view_39 (looseW hd.view_39 []) mean mg mb h₀)
    (h : ∀ h' tk' u', Fr h₀ C h' (kstB u' [(Str.ofString "addr", .str x tx)]) → Keep C s.heap h' → Q .next { s with heap := h', toks := tk' }) :
    wpAny (model PySem.Challenge.rw_pg0136_01.row.prog w) (ktrTop dp un gd cn cs L a ccd cl outer) (exec (.Assign [.Name (Str.ofString "pos") p1] (.Constant (.int 0) k p2) p3) (gEnv C f cd)) Q E s := by
  w_top off
  have kp := F.keep
  have N : News h₀ C s.heap (ownAll h₀ C s.heap) := news_ownAll
  generalize hW : ownAll h₀ C s.heap = W at N
  revert hX; k_fill; intro hX
  dsimp only [kstB] at F
  k_steps
  rename Fr _ _ _ _ => F
  rename News _ _ _ _ => N
  refine forget F [(Str.ofString "addr", .str x tx)] (fa1 rfl) fun u' F' => h _ _ u' F' (keep_of kp F.keep N fun p hp => hW ▸ hp)
theorem g_set {Q : Flow → Shared → Prop} {E : Value → Shared → Prop} (F : Fr h₀ C s.heap (kstB u [(Str.ofString "addr", .str x tx)])) (hX : (hd.heap_39 w.params).In h₀) (hT : Top hd.view_39 (looseW hd.view_39 []) mean mg mb h₀)
    (h : ∀ h' tk' u', Fr h₀ C h' (kstB u' [(Str.ofString "addr", .str x tx), (Str.ofString "escape", .bool false)]) → Keep C s.heap h' → Q .next { s with heap := h', toks := tk' }) :
    wpAny (model PySem.Challenge.rw_pg0136_01.row.prog w) (ktrTop dp un gd cn cs L a ccd cl outer) (exec (.Assign [.Name (Str.ofString "escape") p1] (.Constant (.bool false) k p2) p3) (gEnv C f cd)) Q E s := by
  w_top off
  have kp := F.keep
  have N : News h₀ C s.heap (ownAll h₀ C s.heap) := news_ownAll
  generalize hW : ownAll h₀ C s.heap = W at N
  revert hX; k_fill; intro hX
  dsimp only [kstB] at F
  k_steps
  rename Fr _ _ _ _ => F
  rename News _ _ _ _ => N
  refine forget F [(Str.ofString "addr", .str x tx), (Str.ofString "escape", .bool false)] (fa2 rfl rfl) fun u' F' => h _ _ u' F' (keep_of kp F.keep N fun p hp => hW ▸ hp)
end
end Mine

end
section
open PySem PySem.W PyProof.Rows PySem.Calls PyProof.V PySem.Spec
set_option maxRecDepth 100000
set_option maxHeartbeats 0
set_option linter.unusedVariables false
namespace Mine
/-- what a resumption leaves: all below the generator's frame, and the generator itself -/
def Since (C a : Addr) (s₀ s : Shared) : Prop :=
  ∃ h' tk, s = { s₀ with heap := h', toks := tk } ∧ ∀ b o, (b < C ∨ b = a) → s₀.heap.get? b = some o → h'.get? b = some o
theorem Since.refl (C a : Addr) (s : Shared) : Since C a s s := ⟨s.heap, s.toks, rfl, fun _ _ _ e => e⟩
theorem Since.step {C a : Addr} {s₀ s : Shared} (x : Since C a s₀ s) {h' : Heap} {tk : Nat} (hk : ∀ b o, (b < C ∨ b = a) → s.heap.get? b = some o → h'.get? b = some o) : Since C a s₀ { s with heap := h', toks := tk } := by
  obtain ⟨h₁, tk₁, rfl, hk₁⟩ := x
  exact ⟨h', tk, rfl, fun b o hb e => hk b o hb (hk₁ b o hb e)⟩
/-- the user keeps what lies from the generator's frame on, and the base -/
def Kept (h₀ : Heap) (C : Addr) (h h' : Heap) : Prop := (∀ b o, C ≤ b → h.get? b = some o → h'.get? b = some o) ∧ ∀ b o, h₀.get? b = some o → h'.get? b = some o
abbrev gP (C a : Addr) : Nat → Shared → Shared → Prop := fun n s₀ s₁ => n = 0 ∧ Since C a s₀ s₁
abbrev gR (C a : Addr) : GenEnd := fun n s₀ r s₁ => r = .ok (.ret .none) ∧ gP C a n s₀ s₁
def gY (h₀ : Heap) (C a : Addr) (x : Str) : Protocol := fun m s₀ v s kap =>
  (∃ cc T t0 t1, x.cps[x.cps.size - 1 - m]? = some cc ∧ v = .ref T ∧ s.heap.IsTuple T #[.int ((x.cps.size - 1 - m : Nat) : Int) t0, .str ⟨#[cc]⟩ t1]) ∧ Since C a s₀ s ∧ ∀ s'' : Shared, Kept h₀ C s.heap s''.heap → kap (.send .none) s''
section
variable {w : World} {mg mb : Str → Option Value} {mean : ExcName → Option Value} {dp un : Nat} {gd : Option (List Code)} {cn : Str} {cs : Scope} {L ac : Addr} {ccd : Value} {cl : List (Str × Addr)} {outer : List Env} {h₀ : Heap} {C f a : Addr} {cd : Value} {x : Str} {p1 p2 p3 p4 p5 p6 p7 p8 p9 p10 p11 p12 p13 p14 : Pos} {k1 k2 k3 : Nat} {b1 b2 fb : List Stmt}
  {K : Flow → Sem Fin} {H : Value → Sem Fin}
theorem fr_esc {h₀ : Heap} {C : Addr} {h h' : Heap} {u : Str → Option Value} {ps : List (Str × Value)} (F : Fr h₀ C h (kstB u ps)) (k : ∀ o, h.get? C = some o → h'.get? C = some o) (k0 : ∀ b o, h₀.get? b = some o → h'.get? b = some o) : Fr h₀ C h' (kstB u ps) := ⟨F.ns.at' k, k0, F.above⟩
theorem frIs {h₀ : Heap} {C : Addr} {h : Heap} {m : Str → Option Value} {ps : List (Str × Value)} (F : Fr h₀ C h m) (hk : ∀ p ∈ ps, m p.1 = some p.2) : Fr h₀ C h (kstB m ps) := by rw [mapIs hk]; exact F
theorem gen_loop {e it : Addr} {Pt : Nat → Array Value → Prop} {St : Nat → Heap → Prop} {Mid : Nat → Addr → Heap → Prop} (hX : (hd.heap_39 w.params).In h₀) (hT : Top hd.view_39 (looseW hd.view_39 []) mean mg mb h₀)
    (W : ∀ A' : Around, A'.handled = none → WalksT PySem.Challenge.rw_pg0136_01.row.prog w A' e [e, it] [e, it] x.cps.size Pt St Mid) (h2 : ∀ (i : Nat) (vals : Array Value), Pt i vals → ∃ cc t0 t1, x.cps[i]? = some cc ∧ vals = #[.int (i : Int) t0, .str ⟨#[cc]⟩ t1])
    (hbs : ∀ (i cc : Nat), x.cps[i]? = some cc → (Str.mk #[cc] == Str.ofString "\\") = false) (hCa : C < a) (hae : a < e) (hai : a < it) (hab : h₀.objs.size ≤ C)
    (hK : ∀ (s₀ s : Shared) (u : Str → Option Value), Fr h₀ C s.heap (kstB u [(Str.ofString "escape", .bool false)]) → Since C a s₀ s → Seg (model PySem.Challenge.rw_pg0136_01.row.prog w) (ktrTop dp un gd cn cs L ac ccd cl outer) (gR C a) (gY h₀ C a x) 0 s₀ (.func fb (gEnv C f cd)) (K .next) [] s) :
    ∀ (k i : Nat) (s₀ s : Shared) (u : Str → Option Value) (pp : Pos), x.cps.size - i = k → i ≤ x.cps.size → St i s.heap → Fr h₀ C s.heap (kstB u [(Str.ofString "escape", .bool false)]) → Since C a s₀ s →
      Seg (model PySem.Challenge.rw_pg0136_01.row.prog w) (ktrTop dp un gd cn cs L ac ccd cl outer) (gR C a) (gY h₀ C a x) k s₀
        (.forLoop (.Tuple [.Name (Str.ofString "pos") p1, .Name (Str.ofString "ch") p2] k1 p3) (.ref e) [.If (.Name (Str.ofString "escape") p4) b1 [.If (.Compare (.Name (Str.ofString "ch") p5) [.Eq] [.Constant (.str (Str.ofString "\\")) k2 p6] p7) b2 [.Expr (.Yield (some (.Tuple [.Name (Str.ofString "pos") p8, .Name (Str.ofString "ch") p9] k3 p10)) p11) p12] p13] p14] [] (gEnv C f cd))
        ((model PySem.Challenge.rw_pg0136_01.row.prog w).den (.forLoop (.Tuple [.Name (Str.ofString "pos") p1, .Name (Str.ofString "ch") p2] k1 p3) (.ref e) [.If (.Name (Str.ofString "escape") p4) b1 [.If (.Compare (.Name (Str.ofString "ch") p5) [.Eq] [.Constant (.str (Str.ofString "\\")) k2 p6] p7) b2 [.Expr (.Yield (some (.Tuple [.Name (Str.ofString "pos") p8, .Name (Str.ofString "ch") p9] k3 p10)) p11) p12] p13] p14] [] (gEnv C f cd)))
        [.ret (kOf (gEnv C f cd) K H id id) none false [] (.func fb (gEnv C f cd)) pp []] s := by
  have hwr : ∀ b, (b < C ∨ b = a) → b ∉ [e, it] := by
    intro b hb hm
    have hb' : b ≤ a := by rcases hb with h | rfl; exact Nat.le_of_lt (Nat.lt_trans h hCa); exact Nat.le_refl _
    rcases List.mem_cons.mp hm with rfl | hm
    · exact absurd hae (Nat.not_lt.mpr hb')
    · rw [List.mem_singleton.mp hm] at hb'; exact absurd hai (Nat.not_lt.mpr hb')
  have hCw : C ∉ [e, it] := by
    intro hm
    rcases List.mem_cons.mp hm with q | hm
    · exact Nat.ne_of_lt (Nat.lt_trans hCa hae) q
    · exact Nat.ne_of_lt (Nat.lt_trans hCa hai) (List.mem_singleton.mp hm)
  have hold : ∀ b o, h₀.get? b = some o → b < C := fun b o e => Nat.lt_of_lt_of_le (Heap.lt_size e) hab
  intro k
  induction k with
  | zero =>
    intro i s₀ s u pp hk hi hst F hsince
    have hin : i = x.cps.size := by omega
    subst hin
    refine sg_forLoop ((W _ rfl).done s _ _ hst fun h' tk hk' => ?_)
    have F' : Fr h₀ C h' (kstB u [(Str.ofString "escape", .bool false)]) := fr_esc F (fun o q => hk' _ o hCw q) fun b o q => hk' b o (hwr b (.inl (hold b o q))) (F.keep b o q)
    have := hK s₀ { s with heap := h', toks := tk } u F' (hsince.step fun b o hb q => hk' b o (hwr b hb) q)
    exact seg_leaf (.ok .next) this
  | succ k ih =>
    intro i s₀ s u pp hk hi hst F hsince
    have hlt : i < x.cps.size := by omega
    refine sg_forLoop ((W _ rfl).item i s _ _ hlt hst fun T vals h₁ tk₁ hPt _ hTup hMid hk₁ => ?_)
    obtain ⟨cc, t0, t1, hc, rfl⟩ := h2 i vals hPt
    refine (W _ rfl).go _ k1 p3 i T _ _ _ hMid fun h₂ hst₂ hk₂ => ?_
    have ht₂ : h₂.IsTuple T #[.int (i : Int) t0, .str ⟨#[cc]⟩ t1] := hTup.at fun o e => hk₂ T o ((W callerA rfl).apart i T h₁ hMid) e
    refine wpAny_assign_Tuple rfl ht₂ rfl rfl fun h₃ hx₃ => ?_
    replace hx₃ : Heap.ExtBut h₂.objs.size h₂ h₃ := hx₃
    have up₃ : ∀ b o, h₂.get? b = some o → h₃.get? b = some o := fun b o x => hx₃ b o (Nat.ne_of_lt (Heap.lt_size x)) x
    have F₃ : Fr h₀ C h₃ (kstB u [(Str.ofString "escape", .bool false)]) := fr_esc F (fun o q => up₃ _ o (hk₂ _ o hCw (hk₁ _ o hCw q))) fun b o q => up₃ b o (hk₂ b o (hwr b (.inl (hold b o q))) (hk₁ b o (hwr b (.inl (hold b o q))) (F.keep b o q)))
    show wpAny _ _ (do holding [Value.str ⟨#[cc]⟩ t1] (assign (.Name (Str.ofString "pos") p1) (gEnv C f cd) (.int (i : Int) t0)); do holding [] (assign (.Name (Str.ofString "ch") p2) (gEnv C f cd) (.str ⟨#[cc]⟩ t1)); pure ()) _ _ _
    refine wpAny_bind (wpAny_holding (wpAny_assign_Name (wpAny_storeName_local rfl F₃.ns (fun h₄ hn₄ hs₄ => ?_) rfl)))
    replace hs₄ : Heap.SameBut C h₃ h₄ := hs₄
    have F₄ := F₃.set hn₄ hs₄
    refine wpAny_bind (wpAny_holding (wpAny_assign_Name (wpAny_storeName_local rfl F₄.ns (fun h₅ hn₅ hs₅ => wpAny_pure ?_) rfl)))
    replace hs₅ : Heap.SameBut C h₄ h₅ := hs₅
    have F₅ := F₄.set hn₅ hs₅
    have hst₅ : St (i + 1) h₅ := (W callerA rfl).frame _ _ _ hst₂ fun b hb o e => hs₅.extBut b o (fun q => hCw (q ▸ hb)) (hs₄.extBut b o (fun q => hCw (q ▸ hb)) (up₃ b o e))
    have hne : ∀ b, (b < C ∨ b = a) → b ≠ C := fun b hb q => by
      rcases hb with h | h
      · exact Nat.ne_of_lt h q
      · exact Nat.ne_of_lt hCa (q.symm.trans h)
    have since₅ : ∀ tk, Since C a s₀ { s with heap := h₅, toks := tk } := fun tk => hsince.step fun b o hb q => hs₅.extBut b o (hne b hb) (hs₄.extBut b o (hne b hb) (up₃ b o (hk₂ b o (hwr b hb) (hk₁ b o (hwr b hb) q))))
    clear hsince F₄ F₃ F
    intro H'
    refine seg_execs_cons (sg_If ?_)
    refine forget F₅ [(Str.ofString "escape", .bool false)] (fa1 rfl) fun u₁ F₁ => ?_
    refine g_esc F₁ hX hT ?_
    refine seg_execs_cons (sg_If ?_)
    refine forget F₅ [(Str.ofString "ch", .str ⟨#[cc]⟩ t1)] (fa1 rfl) fun u₂ F₂ => ?_
    refine g_cmp F₂ hX hT fun tk₆ => ?_
    rw [hbs i cc hc]
    refine seg_execs_cons (seg_Expr_Yield rfl rfl rfl ?_)
    have F₆ := frIs (ps := [(Str.ofString "pos", .int (i : Int) t0), (Str.ofString "ch", .str ⟨#[cc]⟩ t1)]) F₅ (fa2 rfl rfl)
    refine g_tup F₆ hX hT fun T' h₇ tk₇ hT' F₇ kp₇ => ?_
    intro kap hkap
    have hidx : x.cps.size - 1 - k = i := by omega
    refine ⟨⟨cc, T', t0, t1, by rw [hidx]; exact hc, rfl, by rw [hidx]; exact hT'⟩, (since₅ tk₆).step fun b o hb q => kp₇ b o (hne b hb) q, fun s'' hs'' => hkap .none s'' ?_⟩
    have F₈ : Fr h₀ C s''.heap _ := fr_esc F₇ (fun o q => hs''.1 _ o (Nat.le_refl _) q) hs''.2
    refine forget F₈ [(Str.ofString "escape", .bool false)] (fa1 rfl) fun u₉ F₉ => ?_
    refine seg_again rfl (ih (i + 1) s'' s'' u₉ pp (by omega) (by omega) ?_ F₉ (Since.refl _ _ _))
    refine (W callerA rfl).frame _ _ _ hst₅ fun b hb o q => hs''.1 b o ?_ (kp₇ b o (fun r => hCw (r ▸ hb)) q)
    rcases List.mem_cons.mp hb with rfl | hm
    · exact Nat.le_of_lt (Nat.lt_trans hCa hae)
    · rw [List.mem_singleton.mp hm]; exact Nat.le_of_lt (Nat.lt_trans hCa hai)
end
end Mine

end
section
open PySem PySem.W PyProof.Rows PySem.Calls PyProof.V PySem.Spec
set_option maxRecDepth 100000
set_option maxHeartbeats 0
set_option linter.unusedVariables false
namespace Mine
section
variable {w : World} {mg mb : Str → Option Value} {mean : ExcName → Option Value} {dp un : Nat} {gd : Option (List Code)} {cn : Str} {cs : Scope} {L ac : Addr} {ccd : Value} {cl : List (Str × Addr)} {outer : List Env} {h₀ : Heap} {C f a : Addr} {cd : Value} {x : Str} {tx : Tok} {p1 p2 p3 p4 p5 p6 p7 p8 p9 p10 p11 p12 p13 p14 : Pos} {k1 k2 k3 : Nat} {b1 b2 b3 : List Stmt}
  {q1 q2 q3 q4 q5 q6 q7 q8 q9 q10 q11 q12 : Pos} {j1 j2 : Nat}
theorem gen_start (hX : (hd.heap_39 w.params).In h₀) (hT : Top hd.view_39 (looseW hd.view_39 []) mean mg mb h₀) (hasc : x.cps.all (· < 128) = true)
    (hbs : ∀ (i cc : Nat), x.cps[i]? = some cc → (Str.mk #[cc] == Str.ofString "\\") = false) (hCa : C < a) {s : Shared} {u : Str → Option Value} (has : a < s.heap.objs.size) (F : Fr h₀ C s.heap (kstB u [(Str.ofString "addr", .str x tx)])) (oa : ∃ o, s.heap.get? a = some o) :
    Seg (model PySem.Challenge.rw_pg0136_01.row.prog w) (ktrTop dp un gd cn cs L ac ccd cl outer) (gR C a) (gY h₀ C a x) x.cps.size s
      (.func [.Assign [.Name (Str.ofString "pos") q1] (.Constant (.int 0) j1 q2) q3, .Assign [.Name (Str.ofString "escape") q4] (.Constant (.bool false) j2 q5) q6,
        .For (.Tuple [.Name (Str.ofString "pos") p1, .Name (Str.ofString "ch") p2] k1 p3) (.Call (.Name (Str.ofString "enumerate") q7) [.Name (Str.ofString "addr") q8] [] q9) [.If (.Name (Str.ofString "escape") p4) b1 [.If (.Compare (.Name (Str.ofString "ch") p5) [.Eq] [.Constant (.str (Str.ofString "\\")) k2 p6] p7) b2 [.Expr (.Yield (some (.Tuple [.Name (Str.ofString "pos") p8, .Name (Str.ofString "ch") p9] k3 p10)) p11) p12] p13] p14] [] q10,
        .If (.Name (Str.ofString "escape") q11) b3 [] q12] (gEnv C f cd))
      ((model PySem.Challenge.rw_pg0136_01.row.prog w).den (.func [.Assign [.Name (Str.ofString "pos") q1] (.Constant (.int 0) j1 q2) q3, .Assign [.Name (Str.ofString "escape") q4] (.Constant (.bool false) j2 q5) q6,
        .For (.Tuple [.Name (Str.ofString "pos") p1, .Name (Str.ofString "ch") p2] k1 p3) (.Call (.Name (Str.ofString "enumerate") q7) [.Name (Str.ofString "addr") q8] [] q9) [.If (.Name (Str.ofString "escape") p4) b1 [.If (.Compare (.Name (Str.ofString "ch") p5) [.Eq] [.Constant (.str (Str.ofString "\\")) k2 p6] p7) b2 [.Expr (.Yield (some (.Tuple [.Name (Str.ofString "pos") p8, .Name (Str.ofString "ch") p9] k3 p10)) p11) p12] p13] p14] [] q10,
        .If (.Name (Str.ofString "escape") q11) b3 [] q12] (gEnv C f cd))) [] s := by
  have hne : ∀ b, (b < C ∨ b = a) → b ≠ C := fun b hb q => by
    rcases hb with h | h
    · exact Nat.ne_of_lt h q
    · exact Nat.ne_of_lt hCa (q.symm.trans h)
  obtain ⟨oa, hoa⟩ := oa
  refine seg_func (sg_stmt ?_)
  refine g_pos F hX hT fun h₁ tk₁ u₁ F₁ kp₁ => ⟨rfl, sg_stmt ?_⟩
  refine g_set F₁ hX hT fun h₂ tk₂ u₂ F₂ kp₂ => ⟨rfl, seg_execs_cons (sg_For ?_)⟩
  have kp₂' : Keep C s.heap h₂ := fun b o hb q => kp₂ b o hb (kp₁ b o hb q)
  have has₂ : a < h₂.objs.size := Heap.lt_size (kp₂' a oa (Nat.ne_of_gt hCa) hoa)
  refine forget F₂ [(Str.ofString "addr", .str x tx)] (fa1 rfl) fun u₃ F₃ => ?_
  refine g_enum F₃ hX hT ?_
  refine call_enumerate_str fun h' he hit hsz hkp => ?_
  have hty : strIterType x = "str_ascii_iterator" := by unfold strIterType; rw [hasc]; rfl
  rw [hty] at hit
  refine wpAny_pyIter_enum he fun pp => ?_
  have F₄ : Fr h₀ C h' _ := fr_esc F₂ (fun o q => hkp _ o q) fun b o q => hkp b o (F₂.keep b o q)
  refine forget F₄ [(Str.ofString "escape", .bool false)] (fa1 rfl) fun u₅ F₅ => ?_
  refine gen_loop hX hT (fun A' hA => WalksT.enumerateD (Draws.strAscii (prog := PySem.Challenge.rw_pg0136_01.row.prog) (w := w) (A := A'.in1) hA h₂.objs.size x tx) (h₂.objs.size + 1) (Nat.succ_ne_self _) (by intro hm; exact Nat.succ_ne_self _ (List.mem_singleton.mp hm)) (List.mem_singleton.mpr rfl)) ?_ hbs hCa (Nat.lt_succ_of_lt has₂) has₂ F.above ?_ x.cps.size 0 s _ u₅ pp (Nat.sub_zero _) (Nat.zero_le _) ⟨⟨_, he⟩, hit⟩ F₅ ⟨_, _, rfl, fun b o hb q => hkp b o (kp₂' b o (hne b hb) q)⟩
  · rintro i vals ⟨t', v, ⟨cc, uu, hc, rfl⟩, rfl⟩
    exact ⟨cc, t', uu, hc, rfl⟩
  · intro s₀ s₁ u' F' since
    refine seg_execs_cons (sg_If ?_)
    refine g_esc F' hX hT ?_
    exact seg_end (.ok (.ret .none)) ⟨rfl, rfl, since⟩
end
/-- the generator at its j-th item -/
def GSt (w : World) (A : Around) (h₀ : Heap) (C a : Addr) (g : Nat) (x : Str) (j : Nat) (s : Shared) : Prop :=
  s.heap.IsGen a g ∧ ∃ gs, s.gens[g]? = some gs ∧ ∀ s'' : Shared, Kept h₀ C s.heap s''.heap → gs.Goes (model PySem.Challenge.rw_pg0136_01.row.prog w) A.in1 (gR C a) (gY h₀ C a x) (x.cps.size - j) (.send .none) s''
section
variable {w : World} {A : Around} {h₀ : Heap} {C a : Addr} {g : Nat} {x : Str} {j : Nat} {s : Shared} {Q : Option Value → Shared → Prop} {E : Value → Shared → Prop}
theorem gen_item (hh : A.handled = none) (hroom : A.depth < recursionLimit) (hl : s.heap.NoLimit) (k0 : ∀ b o, h₀.get? b = some o → s.heap.get? b = some o) (st : GSt w A h₀ C a g x j s) (hj : j < x.cps.size)
    (hQ : ∀ T cc t0 t1 h' tk G, x.cps[j]? = some cc → h'.IsTuple T #[.int (j : Int) t0, .str ⟨#[cc]⟩ t1] → (∀ b o, (b < C ∨ b = a) → s.heap.get? b = some o → h'.get? b = some o) → GSt w A h₀ C a g x (j + 1) { s with heap := h', toks := tk, gens := G } → Q (some (.ref T)) { s with heap := h', toks := tk, gens := G }) :
    wpAny (model PySem.Challenge.rw_pg0136_01.row.prog w) A (pyNext (.ref a)) Q E s := by
  obtain ⟨hg, gs, hgs, hgo⟩ := st
  obtain ⟨m, hm⟩ : ∃ m, x.cps.size - j = m + 1 := ⟨x.cps.size - j - 1, by omega⟩
  rw [hm] at hgo
  refine wpAny_pyNext_gen (P := gP C a) hh hl hroom hg hgs (hgo _ ⟨fun _ _ _ e => e, k0⟩) (fun v s₁ gs' hv => ?_) (fun s₁ hp h' hk => ?_)
  · obtain ⟨⟨cc, T, t0, t1, hc, rfl, hT⟩, ⟨h₁, tk₁, rfl, hk₁⟩, hkap⟩ := hv
    have hidx : x.cps.size - 1 - (m + 1 - 1) = j := by omega
    rw [hidx] at hc hT
    refine hQ T cc t0 t1 h₁ tk₁ _ hc hT hk₁ ⟨let ⟨o, nm, qn, ho, r⟩ := hg; ⟨o, nm, qn, hk₁ a o (.inr rfl) ho, r⟩, gs', setGen_self (gs := .running) (setGen_self hgs), fun s'' hs => ?_⟩
    have e : x.cps.size - (j + 1) = m := by omega
    rw [e]
    exact hkap s'' hs
  · exact absurd hp.1 (Nat.succ_ne_zero m)
theorem gen_done (hab : h₀.objs.size ≤ C) (hh : A.handled = none) (hroom : A.depth < recursionLimit) (hl : s.heap.NoLimit) (k0 : ∀ b o, h₀.get? b = some o → s.heap.get? b = some o) (st : GSt w A h₀ C a g x x.cps.size s)
    (hQ : ∀ h' tk G, (∀ b o, (b < C ∨ b = a) → s.heap.get? b = some o → h'.get? b = some o) → Q none { s with heap := h', toks := tk, gens := G }) :
    wpAny (model PySem.Challenge.rw_pg0136_01.row.prog w) A (pyNext (.ref a)) Q E s := by
  obtain ⟨hg, gs, hgs, hgo⟩ := st
  rw [Nat.sub_self] at hgo
  refine wpAny_pyNext_gen (P := gP C a) hh hl hroom hg hgs (hgo _ ⟨fun _ _ _ e => e, k0⟩) (fun v s₁ gs' hv => ?_) (fun s₁ hp h' hk => ?_)
  · obtain ⟨_, ⟨h₁, tk₁, rfl, hk₁⟩, hkap⟩ := hv
    exact (hkap _ ⟨fun _ _ _ e => e, fun b o q => hk₁ b o (.inl (Nat.lt_of_lt_of_le (Heap.lt_size q) hab)) (k0 b o q)⟩).elim
  · obtain ⟨_, h₁, tk₁, rfl, hk₁⟩ := hp
    exact hQ _ _ _ fun b o hb e => hk b o (hk₁ b o hb e)
end
end Mine

end
section
open PySem PySem.W PyProof.Rows PySem.Calls PyProof.V PySem.Spec
set_option maxRecDepth 100000
set_option maxHeartbeats 0
set_option linter.unusedVariables false
namespace Mine
section
variable {prog : Program} {w : World} {A : Around} {s : Shared} {h₀ : Heap} {L : Addr} {m : Str → Option Value} {K : Frag} {p : Program} {loose : List Str} {mean : ExcName → Option Value} {mg mb : Str → Option Value}
/-- a call of a generator: a new frame, a new generator, nothing run -/
theorem gen_call {Q E : Value → Shared → Prop} {name qual : Str} {params : Arguments} {body : List Stmt} {scope : Scope} {dV kV doc pm cdv ct oc : Value} {an od : Option Addr} {osl : Array (Option Value)} {f : Addr} {args : Args} {binds : List (Str × Value)}
    (F : Fr h₀ L s.heap m) (X₀ : K.In h₀) (T : Top p loose mean mg mb h₀)
    (ho : K.lookup f = some ⟨oc, od, .func (fnOf name qual params body scope dV kV doc pm an cdv ct), osl⟩) (hcd : codeIn K cdv qual = true) (hroom : A.depth < recursionLimit)
    (hbind : BindsTo s (fnOf name qual params body scope dV kV doc pm an cdv ct) args binds) (hloc : ∀ y ∈ binds, scope.names.lookup y.1 = some .local)
    (h : ∀ h' tk', h'.Ns s.heap.objs.size (fun y => binds.reverse.lookup y) → h'.objs.size = s.heap.objs.size + 2 → h'.IsGen (s.heap.objs.size + 1) s.gens.size → (∀ b o, s.heap.get? b = some o → h'.get? b = some o) →
      Q (.ref (s.heap.objs.size + 1)) { s with heap := h', toks := tk', gens := s.gens.push (.fresh (.func body (envOf qual scope s.heap.objs.size f cdv))) })
    (hco : scope.isCoroutine = false) (hgen : scope.isGenerator = true) (hk : scope.kind = .function)
    (hcell : ∀ x ∈ scope.names, x.2 ≠ .cell) : wpAny (model prog w) A (call (.ref f) args.pos args.kw) Q E s := by
  have X := X₀.keeps F.keep
  refine wpAny_call ?_
  refine codeAny_call_generator (body := body) hroom (X _ _ ho) rfl hco hgen rfl (codeRec_of X hcd) (hbind _ _ _ _ ?_)
  refine wpAny_newFunctionEnv hcell hloc (fun h₁ hns hsb => ⟨((T.nolimit).keeps F.keep).fresh _ hsb, ?_⟩) hk
  have hsz : h₁.objs.size = s.heap.objs.size + 1 := by rw [hsb.1, Heap.size_push]
  have hk₁ : ∀ b o, s.heap.get? b = some o → h₁.get? b = some o := fun b o e => hsb.extBut b o (Nat.ne_of_lt (Heap.lt_size e)) (Heap.get?_push_of_some _ e)
  show Q (.ref h₁.objs.size) _
  rw [hsz]
  refine h _ _ (hns.push _) (by rw [Heap.size_push, hsz]) ?_ fun b o e => Heap.get?_push_of_some _ (hk₁ b o e)
  rw [← hsz]
  exact ⟨_, _, _, Heap.get?_push_size _ rfl, rfl, rfl, rfl⟩
end
end Mine

end
section
open PySem PySem.W PyProof.Rows PySem.Calls PyProof.V PySem.Spec
set_option maxRecDepth 100000
set_option maxHeartbeats 0
set_option linter.unusedVariables false
namespace Mine
theorem go_gen {prog : Program} {w : World} {A : Around} {s : Shared} {E : Value → Shared → Prop} {Q : Unit → Shared → Prop} {elts : List PySem.Expr} {k : Nat} {pos : Pos} {a T : Addr} {g : Nat} (hg : s.heap.IsGen a g) (h : Q () s) :
    wpAny (model prog w) A (letOwnedTupleGo (.Tuple elts k pos) (.ref a) (.ref T)) Q E s := by
  obtain ⟨o, nm, qn, ho, hc, hd, _⟩ := hg
  unfold letOwnedTupleGo
  refine wpAny_bind (wpAny_load ho ?_)
  rw [hc, hd]
  exact wpAny_pure h
theorem Kept.trans {h₀ : Heap} {C : Addr} {h₁ h₂ h₃ : Heap} (x : Kept h₀ C h₁ h₂) (y : Kept h₀ C h₂ h₃) : Kept h₀ C h₁ h₃ := ⟨fun b o hb q => y.1 b o hb (x.1 b o hb q), y.2⟩
theorem GSt.frame {w : World} {A : Around} {h₀ : Heap} {C a : Addr} {g : Nat} {x : Str} {j : Nat} {s : Shared} {h' : Heap} {tk : Nat} (st : GSt w A h₀ C a g x j s) (ha : C ≤ a) (k : Kept h₀ C s.heap h') : GSt w A h₀ C a g x j { s with heap := h', toks := tk } :=
  ⟨let ⟨o, nm, qn, ho, r⟩ := st.1; ⟨o, nm, qn, k.1 a o ha ho, r⟩, let ⟨gs, hgs, hgo⟩ := st.2; ⟨gs, hgs, fun s'' h => hgo s'' (k.trans h)⟩⟩
section
variable {w : World} {mg mb : Str → Option Value} {mean : ExcName → Option Value} {A : Around} {E : Value → Shared → Prop} {Q : Flow → Shared → Prop} {s : Shared} {env : Env} {h₀ : Heap}
theorem gen_forLoop {σ : Type} {R : Result → Shared → Prop} {xi xc : Str} {pk pv pt : Pos} {x1 : Nat} {body : List Stmt} {x : Str} {C a : Addr} {g : Nat} {m₀ : Str → Option Value} {news : List (Addr × Obj)} (ps : σ → List (Str × Value)) (P : Nat → σ → Prop) (c₀ : σ) (h0 : 0 < s.toks) (hh : A.handled = none) (hroom : A.depth < recursionLimit)
    (hT : Top hd.view_39 (looseW hd.view_39 []) mean mg mb h₀)
    (hxi : env.kindOf xi = some .local) (hxc : env.kindOf xc = some .local)
    (hp : (env.scope.kind == .class || (env.scope.kind == .module && env.locals != env.globals)) = false)
    (hLC : env.locals < C) (hCa : C < a) (hnC : ∀ p ∈ news, p.1 < C)
    (st : GSt w A h₀ C a g x 0 s) (F : Fr h₀ env.locals s.heap m₀) (N : News h₀ env.locals s.heap news) (hk : ∀ p ∈ ps c₀, m₀ p.1 = some p.2) (hP : P 0 c₀)
    (turn : ∀ (c : σ) (i : Nat) (cc : Nat) (t0 t1 : Tok) (u : Str → Option Value) (h : Heap) (tk : Nat) (G : Array GenState) (own : List (Addr × Obj)), x.cps[i]? = some cc → 0 < tk → P i c →
      Fr h₀ env.locals h (fun y => if y = xc then some (.str ⟨#[cc]⟩ t1) else if y = xi then some (.int i t0) else kstB u (ps c) y) → News h₀ env.locals h (news ++ own) →
      wpAny (model PySem.Challenge.rw_pg0136_01.row.prog w) A (execs body env) (PrPost h₀ env.locals [] own { s with heap := h, toks := tk, gens := G } (fun _ => news) ps (P (i + 1)) (fun f s' => R (.ok f) s')) (notedBy (model PySem.Challenge.rw_pg0136_01.row.prog w) A env fun e s' => R (.error e) s') { s with heap := h, toks := tk, gens := G })
    (done : ∀ (c : σ) (u : Str → Option Value) (h : Heap) (tk : Nat) (G : Array GenState), 0 < tk → P x.cps.size c → Fr h₀ env.locals h (kstB u (ps c)) → News h₀ env.locals h news → R (.ok .next) { s with heap := h, toks := tk, gens := G }) :
    codeAny (model PySem.Challenge.rw_pg0136_01.row.prog w) A (.forLoop (.Tuple [.Name xi pk, .Name xc pv] x1 pt) (.ref a) body [] env) R s := by
  have hab : h₀.objs.size ≤ C := Nat.le_trans F.above (Nat.le_of_lt hLC)
  have hold : ∀ b o, h₀.get? b = some o → b < C := fun b o e => Nat.lt_of_lt_of_le (Heap.lt_size e) hab
  refine codeAny_forLoop_any
    (fun k s' => ∃ (c : σ) (h' : Heap) (tk : Nat) (G : Array GenState) (m' : Str → Option Value) (i : Nat), s' = { s with heap := h', toks := tk, gens := G } ∧ 0 < tk ∧ GSt w A h₀ C a g x i s' ∧ Fr h₀ env.locals h' m' ∧ News h₀ env.locals h' news ∧ (∀ p ∈ ps c, m' p.1 = some p.2) ∧ P i c ∧ i ≤ x.cps.size ∧ k = x.cps.size + 1 - i) ?_ (x.cps.size + 1)
    ⟨c₀, s.heap, s.toks, s.gens, m₀, 0, rfl, h0, st, F, N, hk, hP, Nat.zero_le _, rfl⟩
  rintro k s' ⟨c, H, tk, G, m', i, rfl, htk, hst', F', N', hk', hPc, hi, rfl⟩
  have next : ∀ h₁ : Heap, (∀ b o, (b < C ∨ b = a) → H.get? b = some o → h₁.get? b = some o) → Fr h₀ env.locals h₁ m' ∧ News h₀ env.locals h₁ news := fun h₁ hk₁ =>
    ⟨⟨F'.ns.at' fun o e => hk₁ _ o (.inl hLC) e, fun b o e => hk₁ b o (.inl (hold b o e)) (F'.keep b o e), F'.above⟩, fun p hp => ⟨hk₁ _ _ (.inl (hnC p hp)) (N' p hp).1, (N' p hp).2⟩⟩
  have hl : H.NoLimit := hT.nolimit.keeps F'.keep
  refine Mine.pos (s := { s with heap := H, toks := tk, gens := G }) htk ?_
  by_cases hlt : i < x.cps.size
  · refine gen_item hh hroom hl F'.keep hst' hlt fun T cc t0 t1 h₁ tk₁ G₁ hc hTup hk₁ hst₁ htk₁ => ?_
    refine go_gen hst₁.1 ?_
    refine Mine.pos (s := { s with heap := h₁, toks := tk₁, gens := G₁ }) htk₁ (wpAny_assign_Tuple hh hTup rfl rfl fun h₃ hx₃ => ?_)
    replace hx₃ : Heap.ExtBut h₁.objs.size h₁ h₃ := hx₃
    have up₃ : ∀ b o, h₁.get? b = some o → h₃.get? b = some o := fun b o x => hx₃ b o (Nat.ne_of_lt (Heap.lt_size x)) x
    obtain ⟨F₃, N₃⟩ := next h₃ fun b o hb x => up₃ b o (hk₁ b o hb x)
    show wpAny _ A (do holding [Value.str ⟨#[cc]⟩ t1] (assign (.Name xi pk) env (.int (i : Int) t0)); do holding [] (assign (.Name xc pv) env (.str ⟨#[cc]⟩ t1)); pure ()) _ _ _
    refine wpAny_bind (wpAny_holding (wpAny_assign_Name (wpAny_storeName_local hxi F₃.ns (fun h₄ hn₄ hs₄ => ?_) hp)))
    replace hs₄ : Heap.SameBut env.locals h₃ h₄ := hs₄
    have F₄ := F₃.set hn₄ hs₄
    refine wpAny_bind (wpAny_holding (wpAny_assign_Name (wpAny_storeName_local hxc F₄.ns (fun h₅ hn₅ hs₅ => wpAny_pure ?_) hp)))
    intro htk₅
    refine genT htk₅ fun tk₅ htk₅ => ?_
    replace hs₅ : Heap.SameBut env.locals h₄ h₅ := hs₅
    have F₅ := F₄.set hn₅ hs₅
    have N₅ : News h₀ env.locals h₅ news := (N₃.set hs₄).set hs₅
    have neL : ∀ b, C ≤ b → b ≠ env.locals := fun b hb q => absurd hLC (Nat.not_lt.mpr (q ▸ hb))
    have kp₅ : Kept h₀ C h₁ h₅ := ⟨fun b o hb q => hs₅.extBut b o (neL b hb) (hs₄.extBut b o (neL b hb) (up₃ b o q)), F₅.keep⟩
    have hLf : env.locals ∉ (List.range h₅.objs.size).filter (fun b => decide (C ≤ b)) := by
      intro hm
      have := (List.mem_filter.mp hm).2
      exact absurd hLC (Nat.not_lt.mpr (of_decide_eq_true this))
    have FF : Fr h₀ env.locals h₅ (fun y => if y = xc then some (.str ⟨#[cc]⟩ t1) else if y = xi then some (.int i t0) else kstB m' (ps c) y) := by rw [mapIs hk']; exact F₅
    have step := turn c i cc t0 t1 m' h₅ tk₅ G₁ (ownOf h₀ ((List.range h₅.objs.size).filter (fun b => decide (C ≤ b))) h₅) hc htk₅ hPc FF (News.append N₅ (news_ownOf hLf))
    have step' := Mine.pos (Q := fun f s₃ => 0 < s₃.toks ∧ PrPost h₀ env.locals [] (ownOf h₀ ((List.range h₅.objs.size).filter (fun b => decide (C ≤ b))) h₅) { s with heap := h₅, toks := tk₅, gens := G₁ } (fun _ => news) ps (P (i + 1)) (fun f s' => R (.ok f) s') f s₃) (s := { s with heap := h₅, toks := tk₅, gens := G₁ }) htk₅ (wpAny_mono step (fun f s₃ q (hq : 0 < s₃.toks) => And.intro hq q) fun _ _ e => e)
    refine wpAny_mono step' (fun f s₃ h₆ => ?_) fun _ _ e => e
    obtain ⟨h7, h₆⟩ := h₆
    unfold PrPost at h₆
    have fin : PrEnd h₀ env.locals [] (ownOf h₀ ((List.range h₅.objs.size).filter (fun b => decide (C ≤ b))) h₅) { s with heap := h₅, toks := tk₅, gens := G₁ } (fun _ => news) ps (P (i + 1)) s₃ → ∃ m, m < x.cps.size + 1 - i ∧ ∃ (c : σ) (h' : Heap) (tk : Nat) (G : Array GenState) (m' : Str → Option Value) (i : Nat), s₃ = { s with heap := h', toks := tk, gens := G } ∧ 0 < tk ∧ GSt w A h₀ C a g x i s₃ ∧ Fr h₀ env.locals h' m' ∧ News h₀ env.locals h' news ∧ (∀ p ∈ ps c, m' p.1 = some p.2) ∧ P i c ∧ i ≤ x.cps.size ∧ m = x.cps.size + 1 - i := by
      intro y
      obtain ⟨c', h₆', tk₆, m₂, news₂, rfl, F₆, N₆, ho₆, hn₆, hw₆, hk₆, hp₆⟩ := prEnd_out y
      refine ⟨x.cps.size + 1 - (i + 1), by omega, c', h₆', tk₆, G₁, m₂, i + 1, rfl, h7, ?_, F₆, fun p hp => N₆ p (hn₆ p hp), hk₆, hp₆, hlt, rfl⟩
      have kp₆ : Kept h₀ C h₅ h₆' := ⟨fun b o hb q => (N₆ _ (ho₆ _ (mem_ownOf (by simpa using ⟨Heap.lt_size q, hb⟩) (Heap.get?_none_of_le (Nat.le_trans hab hb)) q))).1, F₆.keep⟩
      exact GSt.frame (s := { s with heap := h₁, toks := tk₁, gens := G₁ }) hst₁ (Nat.le_of_lt hCa) (kp₅.trans kp₆)
    cases f with
    | ret v => exact h₆
    | brk => exact h₆
    | cont => exact fin h₆
    | next => exact fin h₆
  · have hin : i = x.cps.size := by omega
    subst hin
    refine gen_done hab hh hroom hl F'.keep hst' fun h₁ tk₁ G₁ hk₁ htk₁ => wpAny_execs_nil ?_
    obtain ⟨F₁, N₁⟩ := next h₁ hk₁
    exact done c m' h₁ tk₁ G₁ htk₁ hPc (by rw [mapIs hk']; exact F₁) N₁
end
end Mine

end
section
open PySem PySem.W PyProof.Rows PySem.Calls PyProof.V PySem.Spec
set_option maxRecDepth 100000
set_option maxHeartbeats 0
set_option linter.unusedVariables false
namespace Mine
section
variable {w : World} {mg mb : Str → Option Value} {mean : ExcName → Option Value} {dp un : Nat} {gd : Option (List Code)} {cn : Str} {cs : Scope} {L ac : Addr} {ccd : Value} {cl : List (Str × Addr)} {outer : List Env} {E : Value → Shared → Prop} {Q : Flow → Shared → Prop} {s : Shared} {env : Env} {h₀ : Heap}
theorem gen_for {σ : Type} {xi xc : Str} {pk pv pt : Pos} {x1 : Nat} {body : List Stmt} {x : Str} {tx : Tok} {m₀ : Str → Option Value} {news : List (Addr × Obj)} (ps : σ → List (Str × Value)) (P : Nat → σ → Prop) (c₀ : σ) (h0 : 0 < s.toks) (hroom : dp < recursionLimit)
    (hX : (hd.heap_39 w.params).In h₀) (hT : Top hd.view_39 (looseW hd.view_39 []) mean mg mb h₀) (hasc : x.cps.all (· < 128) = true)
    (hbs : ∀ (i cc : Nat), x.cps[i]? = some cc → (Str.mk #[cc] == Str.ofString "\\") = false)
    (hxi : env.kindOf xi = some .local) (hxc : env.kindOf xc = some .local)
    (hp : (env.scope.kind == .class || (env.scope.kind == .module && env.locals != env.globals)) = false)
    (F : Fr h₀ env.locals s.heap m₀) (N : News h₀ env.locals s.heap news) (hk : ∀ p ∈ ps c₀, m₀ p.1 = some p.2) (hP : P 0 c₀)
    (turn : ∀ (c : σ) (i : Nat) (cc : Nat) (t0 t1 : Tok) (u : Str → Option Value) (h : Heap) (tk : Nat) (G : Array GenState) (own : List (Addr × Obj)), x.cps[i]? = some cc → 0 < tk → P i c →
      Fr h₀ env.locals h (fun y => if y = xc then some (.str ⟨#[cc]⟩ t1) else if y = xi then some (.int i t0) else kstB u (ps c) y) → News h₀ env.locals h (news ++ own) →
      wpAny (model PySem.Challenge.rw_pg0136_01.row.prog w) (ktrTop dp un gd cn cs L ac ccd cl outer) (execs body env) (PrPost h₀ env.locals [] own { s with heap := h, toks := tk, gens := G } (fun _ => news) ps (P (i + 1)) Q) E { s with heap := h, toks := tk, gens := G })
    (done : ∀ (c : σ) (u : Str → Option Value) (h : Heap) (tk : Nat) (G : Array GenState), 0 < tk → P x.cps.size c → Fr h₀ env.locals h (kstB u (ps c)) → News h₀ env.locals h news → Q .next { s with heap := h, toks := tk, gens := G })
    (hE : PassesOwn (model PySem.Challenge.rw_pg0136_01.row.prog w) (ktrTop dp un gd cn cs L ac ccd cl outer) env E := by passes_own) :
    wpAny (model PySem.Challenge.rw_pg0136_01.row.prog w) (ktrTop dp un gd cn cs L ac ccd cl outer) (call (.ref 35) [.str x tx]) (fun xv s₁ => wpAny (model PySem.Challenge.rw_pg0136_01.row.prog w) (ktrTop dp un gd cn cs L ac ccd cl outer) (pyIter xv) (fun it s₂ =>
      codeAny (model PySem.Challenge.rw_pg0136_01.row.prog w) (ktrTop dp un gd cn cs L ac ccd cl outer) (.forLoop (.Tuple [.Name xi pk, .Name xc pv] x1 pt) it body [] env) (fun r s' => match r with | .ok f => Q f s' | .error e => cameBackBy (model PySem.Challenge.rw_pg0136_01.row.prog w) (ktrTop dp un gd cn cs L ac ccd cl outer) env E e s') s₂) E s₁) E s := by
  have hLC : env.locals < s.heap.objs.size := F.ns.lt
  have hnC : ∀ p ∈ news, p.1 < s.heap.objs.size := fun p hp => Heap.lt_size (N p hp).1
  have hX' := hX
  revert hX; k_fill; intro hX
  refine Mine.pos h0 ?_
  refine' gen_call (args := ⟨[.str x tx], []⟩) F hX hT ?ho ?hcd hroom ?hb ?hl ?_ ?c2 ?c3 ?c4 ?c5
  case ho => k_is
  case hcd => k_is
  case hb => exact BindsTo.of_eq rfl
  case hl => exact locs rfl
  case c2 => exact rfl
  case c3 => exact rfl
  case c4 => exact rfl
  case c5 => decide
  intro h' tk' hns hsz hgen hkp htk
  have F₁ : Fr h₀ env.locals h' m₀ := ⟨F.ns.keeps hkp, fun b o q => hkp b o (F.keep b o q), F.above⟩
  have N₁ : News h₀ env.locals h' news := fun p hp => ⟨hkp _ _ (N p hp).1, (N p hp).2⟩
  refine wpAny_pyIter_gen hgen ?_
  have hab : h₀.objs.size ≤ s.heap.objs.size := Nat.le_trans F.above (Nat.le_of_lt hLC)
  refine gen_forLoop (C := s.heap.objs.size) (g := s.gens.size) (x := x) (h₀ := h₀) ps P c₀ htk rfl hroom hT hxi hxc hp hLC (Nat.lt_succ_self _) hnC ⟨hgen, _, Array.getElem?_push_size .., fun s'' hs => ⟨rfl, ?_⟩⟩ F₁ N₁ hk hP ?_ ?_
  · have FC : Fr h₀ s.heap.objs.size s''.heap (fun y => List.lookup y (List.reverse [(Str.ofString "addr", Value.str x tx)])) := ⟨hns.at' fun o q => hs.1 _ o (Nat.le_refl _) q, hs.2, hab⟩
    obtain ⟨og, nm, qn, hog, _⟩ := hgen
    have hog' := hs.1 _ og (Nat.le_succ _) hog
    exact gen_start hX' hT hasc hbs (Nat.lt_succ_self _) (Heap.lt_size hog') (frIs FC (fa1 (by rfl))) ⟨og, hog'⟩
  · intro c i cc t0 t1 u h tk G own hc htk hPc FF NN
    exact wpAny_passesOwn hE (turn c i cc t0 t1 u h tk G own hc htk hPc FF NN)
  · exact done
end
end Mine

end
section
open PySem PySem.W PyProof.Rows PySem.Calls PyProof.V PySem.Spec
set_option maxRecDepth 100000
set_option maxHeartbeats 0
namespace Mine
set_option linter.unusedVariables false
section
theorem strip_call {w : World} {mg mb : Str → Option Value} {mean : ExcName → Option Value} {x : Str} {tx : Tok} {news : List (Addr × Obj)}
    {dp un : Nat} {gd : Option (List Code)} {cn : Str} {cs : Scope} {a : Addr} {ccd : Value} {cl : List (Str × Addr)} {outer : List Env} {A₀ : Around} {base h₀ : Heap} {L : Addr} {m : Str → Option Value} {s : Shared} {Q E : Value → Shared → Prop}
    (hq : (Builtin.Str.occurrences x (Str.ofString "\"") 0 x.length 1).isEmpty = true) (hB : Below A₀ base outer h₀) (F : Fr h₀ L s.heap m) (hX : (hd.heap_39 w.params).In h₀) (N : News h₀ L s.heap news) (hT : Top hd.view_39 (looseW hd.view_39 []) mean mg mb h₀) (hcs : cs.kind = .function)
    (hdp : dp + 4 < recursionLimit) (hun : un + 32 < cLine)
    (hret : ∀ (h' : Heap) (tk' : Nat), Fr h₀ L h' m → News h₀ L h' news → Q (.str x tx) { s with heap := h', toks := tk' }) :
    wpAny (model PySem.Challenge.rw_pg0136_01.row.prog w) (ktrTop dp un gd cn cs L a ccd cl outer) (call (.ref 42) [.str x tx]) Q E s := by
  w_top off
  revert hX; k_fill; intro hX
  refine wpAny_call ?_
  k_dflt cell_enter
  clear F
  rename Fr _ _ _ _ => F
  refine forget F [(Str.ofString "addr", .str x tx)] (fa1 rfl) ?_
  clear F
  intro u F
  dsimp only [kstB] at F
  k_steps
  exact hret _ _ (by assumption) (by assumption)
end
end Mine

end
section
open PySem PySem.W PyProof.Rows PySem.Calls PyProof.V PySem.Spec
set_option maxRecDepth 100000
set_option maxHeartbeats 0
namespace Mine
set_option linter.unusedVariables false
def dStep (cc : Nat) (d : Int) : Option Int := if Str.mk #[cc] == Str.ofString "(" then some (d + 1) else if Str.mk #[cc] == Str.ofString ")" then (if d - 1 < 0 then none else some (d - 1)) else some d
def dGo (x : Str) : Nat → Option Int
  | 0 => some 0
  | i + 1 => (dGo x i).bind (dStep (x.cps.getD i 0))
def checkP (x : Str) : Bool := match dGo x x.cps.size with
  | some d => d == 0
  | none => false
theorem dGo_none {x : Str} {i : Nat} (h : dGo x i = none) : ∀ j, i ≤ j → dGo x j = none := by
  intro j hj
  induction j with
  | zero => have : i = 0 := by omega
            subst this; exact h
  | succ j ih =>
    rcases Nat.lt_or_ge i (j + 1) with q | q
    · rw [dGo, ih (by omega)]; rfl
    · have : i = j + 1 := by omega
      subst this; exact h
theorem d_open {x : Str} {i cc : Nat} {n : Int} (h : dGo x i = some n) (hc : x.cps[i]? = some cc) (a : (Str.mk #[cc] == Str.ofString "(") = true) : dGo x (i + 1) = some (n + 1) := by
  rw [dGo, h, cc_getD hc]; show dStep cc n = _; unfold dStep; rw [a]; rfl
theorem d_neg {x : Str} {i cc : Nat} {n : Int} (h : dGo x i = some n) (hc : x.cps[i]? = some cc) (a : (Str.mk #[cc] == Str.ofString "(") = false) (b : (Str.mk #[cc] == Str.ofString ")") = true) (c : n - 1 < 0) : dGo x (i + 1) = none := by
  rw [dGo, h, cc_getD hc]; show dStep cc n = _; unfold dStep; rw [a, b]; exact if_pos c
theorem d_close {x : Str} {i cc : Nat} {n : Int} (h : dGo x i = some n) (hc : x.cps[i]? = some cc) (a : (Str.mk #[cc] == Str.ofString "(") = false) (b : (Str.mk #[cc] == Str.ofString ")") = true) (c : ¬ n - 1 < 0) : dGo x (i + 1) = some (n - 1) := by
  rw [dGo, h, cc_getD hc]; show dStep cc n = _; unfold dStep; rw [a, b]; exact if_neg c
theorem d_else {x : Str} {i cc : Nat} {n : Int} (h : dGo x i = some n) (hc : x.cps[i]? = some cc) (a : (Str.mk #[cc] == Str.ofString "(") = false) (b : (Str.mk #[cc] == Str.ofString ")") = false) : dGo x (i + 1) = some n := by
  rw [dGo, h, cc_getD hc]; show dStep cc n = _; unfold dStep; rw [a, b]; rfl
theorem check_none {x : Str} {i cc : Nat} (hc : x.cps[i]? = some cc) (h : dGo x (i + 1) = none) : checkP x = false := by
  have : i < x.cps.size := (Array.getElem?_eq_some_iff.mp hc).1
  unfold checkP
  rw [dGo_none h x.cps.size (by omega)]
theorem check_some {x : Str} {n : Int} (h : dGo x x.cps.size = some n) : checkP x = (n == 0) := by
  unfold checkP
  rw [h]
theorem q_is {Q : Value → Shared → Prop} {b c : Bool} {s : Shared} (e : b = c) (h : Q (.bool b) s) : Q (.bool c) s := e ▸ h
structure CS where
  n : Int
  t : Tok
section
local macro_rules | `(tactic| walk_at "execs cons") => `(tactic| (k_here; (fail_if_success (fail_if_success k_gentoks)); refine genT (by omega) ?_; intro tk0 htk0))
local macro_rules | `(tactic| walk_at "execs nil") => `(tactic| (k_here; (fail_if_success (fail_if_success k_gentoks)); refine genT (by omega) ?_; intro tk0 htk0))
local macro_rules | `(tactic| walk_at "exec For Tuple Call cons nil") => `(tactic| (refine halt ?_))
local macro_rules | `(tactic| walk_at "call ref") => `(tactic| ((with_reducible show wpAny _ _ (call (Value.ref 35) _) _ _ _); refine halt ?_))
local macro_rules | `(tactic| walk_at "call ref") => `(tactic| ((with_reducible show wpAny _ _ (call (Value.ref 42) _) _ _ _); k_dflt (refine Mine.pos (by assumption) ?_; refine' strip_call ?s0 ?s3 ?s4 ?s5 ?s6 ?s7 ?s8 ?s9 ?s10 ?_; (case s0 => assumption); (case s3 => k_asm); (case s4 => k_asm); (case s5 => k_asm); (case s6 => k_asm); (case s7 => k_asm); (case s8 => exact rfl); (case s9 => ktr_room); (case s10 => ktr_units)); intro h9 tk9 F9 N9 htk9; (try dsimp only at htk9); (try dsimp only)))
local macro_rules | `(tactic| walk_at "PrPost") => `(tactic| (refine halt ?_))
theorem check_call {w : World} {mg mb : Str → Option Value} {mean : ExcName → Option Value} {x : Str} {tx : Tok} {news : List (Addr × Obj)}
    {dp un : Nat} {gd : Option (List Code)} {cn : Str} {cs : Scope} {a : Addr} {ccd : Value} {cl : List (Str × Addr)} {outer : List Env} {A₀ : Around} {base h₀ : Heap} {L : Addr} {m : Str → Option Value} {s : Shared} {Q E : Value → Shared → Prop}
    (hq : (Builtin.Str.occurrences x (Str.ofString "\"") 0 x.length 1).isEmpty = true) (hx : x.length ≤ 40) (hasc : x.cps.all (· < 128) = true) (hbs : ∀ (i cc : Nat), x.cps[i]? = some cc → (Str.mk #[cc] == Str.ofString "\\") = false) (h0 : 0 < s.toks) (hB : Below A₀ base outer h₀) (F : Fr h₀ L s.heap m) (hX : (hd.heap_39 w.params).In h₀) (N : News h₀ L s.heap news) (hT : Top hd.view_39 (looseW hd.view_39 []) mean mg mb h₀) (hcs : cs.kind = .function)
    (hdp : dp + 10 < recursionLimit) (hun : un + 80 < cLine)
    (hret : ∀ (h' : Heap) (tk' : Nat) (G : Array GenState), 0 < tk' → Fr h₀ L h' m → News h₀ L h' news → Q (.bool (checkP x)) { s with heap := h', toks := tk', gens := G }) :
    wpAny (model PySem.Challenge.rw_pg0136_01.row.prog w) (ktrTop dp un gd cn cs L a ccd cl outer) (call (.ref 49) [.str x tx]) Q E s := by
  w_top off
  revert hX; k_fill; intro hX
  refine wpAny_call ?_
  k_dflt cell_enter
  clear F
  rename Fr _ _ _ _ => F
  refine forget F [(Str.ofString "addr", .str x tx)] (fa1 rfl) ?_
  clear F
  intro u F
  dsimp only [kstB] at F
  k_steps
  refine go ?_
  refine wpAny_For ?_
  k_steps
  refine go ?_
  clear N
  rename Fr _ _ _ _ => F
  rename News _ _ _ _ => N
  rename Frag.In _ _ => X'
  rename Top _ _ _ _ _ _ => T'
  refine gen_for (σ := CS) (fun c => [(Str.ofString "opens", .int c.n c.t)]) (fun i c => Hold (dGo x i = some c.n)) ⟨0, _⟩ (by dsimp only; omega) (by ktr_room) X' T' hasc hbs rfl rfl rfl F N (fa1 rfl) ⟨rfl⟩ ?_ ?_
  · clear F N
    rintro ⟨n, t⟩ i cc t0 t1 u h tk G own hc htk ⟨hd⟩ F N
    dsimp only at *
    dsimp only [kstB] at F
    replace hd := Hold.mk hd
    k_steps
    · refine go ?_
      rename Fr _ _ _ _ => F
      rename News _ _ _ _ => N
      exact pr_end ⟨n + 1, _⟩ F N (fun p hp => List.mem_append_right _ hp) (fun p hp => List.mem_append_left _ hp) (fun p hp hw => nomatch hw) (fa1 rfl) ⟨d_open hd.out hc (by assumption)⟩
    · refine go (pr_ret ?_)
      have hc0 := check_none hc (d_neg hd.out hc (by assumption) (by assumption) (by assumption))
      k_steps
      rename Fr h₀ L _ _ => F
      rename News h₀ L _ _ => N
      exact q_is hc0 (hret _ _ _ (by omega) F fun p hp => N p (List.mem_append_left _ hp))
    · refine go ?_
      rename Fr _ _ _ _ => F
      rename News _ _ _ _ => N
      exact pr_end ⟨n - 1, _⟩ F N (fun p hp => List.mem_append_right _ hp) (fun p hp => List.mem_append_left _ hp) (fun p hp hw => nomatch hw) (fa1 rfl) ⟨d_close hd.out hc (by assumption) (by assumption) (by assumption)⟩
    · refine go ?_
      rename Fr _ _ _ _ => F
      rename News _ _ _ _ => N
      exact pr_end ⟨n, _⟩ F N (fun p hp => List.mem_append_right _ hp) (fun p hp => List.mem_append_left _ hp) (fun p hp hw => nomatch hw) (fa1 rfl) ⟨d_else hd.out hc (by assumption) (by assumption)⟩
  · clear F N
    rintro ⟨n, t⟩ u h tk G htk ⟨hd⟩ F N
    dsimp only at *
    dsimp only [kstB] at F
    replace hd := Hold.mk hd
    k_steps
    exact q_is (check_some hd.out) (hret h (tk + 1) G (by omega) (by assumption) (by assumption))
end
end Mine

end
section
open PySem PySem.W PyProof.Rows PySem.Calls PyProof.V PySem.Spec
set_option maxRecDepth 100000
set_option maxHeartbeats 0
set_option linter.unusedVariables false
namespace Mine
section
variable {prog : Program} {w : World} {A : Around} {E : Value → Shared → Prop} {Q : Flow → Shared → Prop} {s : Shared} {env : Env} {h₀ : Heap} {L : Addr}
@[irreducible] def OnEnd {σ : Type} (h₀ : Heap) (L : Addr) (wr : List Addr) (own : List (Addr × Obj)) (s₁ : Shared) (Led : σ → List (Addr × Obj)) (ps : σ → List (Str × Value)) (P : σ → Prop) (s₂ : Shared) : Prop :=
  ∃ (c' : σ) (h' : Heap) (tk : Nat) (G : Array GenState) (m' : Str → Option Value) (news' : List (Addr × Obj)), s₂ = { s₁ with heap := h', toks := tk, gens := G } ∧ Fr h₀ L h' m' ∧ News h₀ L h' news' ∧ (∀ p ∈ own, p ∈ news') ∧ (∀ p ∈ Led c', p ∈ news') ∧ (∀ p ∈ Led c', p.1 ∉ wr) ∧ (∀ p ∈ ps c', m' p.1 = some p.2) ∧ P c'
@[irreducible] def OnPost {σ : Type} (h₀ : Heap) (L : Addr) (wr : List Addr) (own : List (Addr × Obj)) (s₁ : Shared) (Led : σ → List (Addr × Obj)) (ps : σ → List (Str × Value)) (P : σ → Prop) (Q : Flow → Shared → Prop) (f : Flow) (s₂ : Shared) : Prop :=
  match f with
  | .ret v => Q (.ret v) s₂
  | .brk => Q .next s₂
  | _ => OnEnd h₀ L wr own s₁ Led ps P s₂
theorem on_end {σ : Type} {wr : List Addr} {own : List (Addr × Obj)} {s₁ : Shared} {Led : σ → List (Addr × Obj)} {ps : σ → List (Str × Value)} {P : σ → Prop} {m' : Str → Option Value} {h' : Heap} {tk : Nat} {G : Array GenState} {news' : List (Addr × Obj)} (c' : σ)
    (F : Fr h₀ L h' m') (N : News h₀ L h' news') (ho : ∀ p ∈ own, p ∈ news') (hn : ∀ p ∈ Led c', p ∈ news') (hw : ∀ p ∈ Led c', p.1 ∉ wr) (hk : ∀ p ∈ ps c', m' p.1 = some p.2) (hp : P c') :
    OnPost h₀ L wr own s₁ Led ps P Q .next { s₁ with heap := h', toks := tk, gens := G } := by
  unfold OnPost OnEnd
  exact ⟨c', h', tk, G, m', news', rfl, F, N, ho, hn, hw, hk, hp⟩
theorem onEnd_out {σ : Type} {wr : List Addr} {own : List (Addr × Obj)} {s₁ s₂ : Shared} {Led : σ → List (Addr × Obj)} {ps : σ → List (Str × Value)} {P : σ → Prop} (h : OnEnd h₀ L wr own s₁ Led ps P s₂) :
  ∃ (c' : σ) (h' : Heap) (tk : Nat) (G : Array GenState) (m' : Str → Option Value) (news' : List (Addr × Obj)), s₂ = { s₁ with heap := h', toks := tk, gens := G } ∧ Fr h₀ L h' m' ∧ News h₀ L h' news' ∧ (∀ p ∈ own, p ∈ news') ∧ (∀ p ∈ Led c', p ∈ news') ∧ (∀ p ∈ Led c', p.1 ∉ wr) ∧ (∀ p ∈ ps c', m' p.1 = some p.2) ∧ P c' := by
  unfold OnEnd at h; exact h
/-- a for over single items: its ledger may turn, generators may come -/
theorem loop_one {σ : Type} {R : Result → Shared → Prop} {xi : Str} {pk : Pos} {body : List Stmt} {I : Addr} {fp wr : List Addr} {n : Nat} {Pv : Nat → Value → Prop} {St : Nat → Heap → Prop}
    {m₀ : Str → Option Value} (Led : σ → List (Addr × Obj)) (ps : σ → List (Str × Value)) (P : Nat → σ → Prop) (c₀ : σ) (h0 : 0 < s.toks) (hh : A.handled = none) (W : Walks prog w A I fp wr n Pv St)
    (hxi : env.kindOf xi = some .local)
    (hp : (env.scope.kind == .class || (env.scope.kind == .module && env.locals != env.globals)) = false)
    (hLf : env.locals ∉ fp) (hwr : ∀ b ∈ wr, h₀.get? b = none) (hnw : ∀ p ∈ Led c₀, p.1 ∉ wr)
    (hst : St 0 s.heap) (F : Fr h₀ env.locals s.heap m₀) (N : News h₀ env.locals s.heap (Led c₀)) (hk : ∀ p ∈ ps c₀, m₀ p.1 = some p.2) (hP : P 0 c₀)
    (turn : ∀ (c : σ) (i : Nat) (v : Value) (u : Str → Option Value) (h : Heap) (tk : Nat) (G : Array GenState) (own : List (Addr × Obj)), i < n → Pv i v → 0 < tk → P i c → (∀ p ∈ Led c, p.1 ∉ wr) → (∀ p ∈ own, p.1 ∈ fp) → (∀ b ∈ fp, ∀ o, h₀.get? b = none → h.get? b = some o → (b, o) ∈ own) →
      Fr h₀ env.locals h (fun y => if y = xi then some v else kstB u (ps c) y) → News h₀ env.locals h (Led c ++ own) →
      wpAny (model prog w) A (execs body env) (OnPost h₀ env.locals wr own { s with heap := h, toks := tk, gens := G } Led ps (P (i + 1)) (fun f s' => R (.ok f) s')) (notedBy (model prog w) A env fun e s' => R (.error e) s') { s with heap := h, toks := tk, gens := G })
    (done : ∀ (c : σ) (u : Str → Option Value) (h : Heap) (tk : Nat) (G : Array GenState), 0 < tk → P n c → Fr h₀ env.locals h (kstB u (ps c)) → News h₀ env.locals h (Led c) → R (.ok .next) { s with heap := h, toks := tk, gens := G }) :
    codeAny (model prog w) A (.forLoop (.Name xi pk) (.ref I) body [] env) R s := by
  have hLw : env.locals ∉ wr := fun h => hLf (W.sub _ h)
  have old : ∀ b o, h₀.get? b = some o → b ∉ wr := fun b o e hb => by rw [hwr b hb] at e; cases e
  refine codeAny_forLoop_any
    (fun k s' => ∃ (c : σ) (h' : Heap) (tk : Nat) (G : Array GenState) (m' : Str → Option Value) (i : Nat), s' = { s with heap := h', toks := tk, gens := G } ∧ 0 < tk ∧ St i h' ∧ Fr h₀ env.locals h' m' ∧ News h₀ env.locals h' (Led c) ∧ (∀ p ∈ Led c, p.1 ∉ wr) ∧ (∀ p ∈ ps c, m' p.1 = some p.2) ∧ P i c ∧ i ≤ n ∧ k = n + 1 - i) ?_ (n + 1)
    ⟨c₀, s.heap, s.toks, s.gens, m₀, 0, rfl, h0, hst, F, N, hnw, hk, hP, Nat.zero_le _, rfl⟩
  rintro k s' ⟨c, H, tk, G, m', i, rfl, htk, hst', F', N', hnw', hk', hPc, hi, rfl⟩
  have next : ∀ h₁ : Heap, (∀ b o, b ∉ wr → H.get? b = some o → h₁.get? b = some o) → Fr h₀ env.locals h₁ m' ∧ News h₀ env.locals h₁ (Led c) := fun h₁ hk₁ =>
    ⟨⟨F'.ns.at' fun o e => hk₁ _ o hLw e, fun b o e => hk₁ b o (old b o e) (F'.keep b o e), F'.above⟩, fun p hp => ⟨hk₁ _ _ (hnw' p hp) (N' p hp).1, (N' p hp).2⟩⟩
  refine Mine.pos (s := { s with heap := H, toks := tk, gens := G }) htk ?_
  by_cases hlt : i < n
  · refine W.item i _ _ _ hlt hst' fun v h₁ tk₁ hPv hst₁ hk₁ htk₁ => ?_
    refine wpAny_of_eq (rfl : letOwnedTupleGo (.Name xi pk) (.ref I) v = pure ()) ?_
    obtain ⟨F₁, N₁⟩ := next h₁ hk₁
    refine Mine.pos (s := { s with heap := h₁, toks := tk₁, gens := G }) htk₁ (wpAny_assign_Name (wpAny_storeName_local hxi F₁.ns (fun h₅ hn₅ hs₅ => ?_) hp))
    intro htk₅
    refine genT htk₅ fun tk₅ htk₅ => ?_
    replace hs₅ : Heap.SameBut env.locals h₁ h₅ := hs₅
    have F₅ := F₁.set hn₅ hs₅
    have N₅ : News h₀ env.locals h₅ (Led c) := N₁.set hs₅
    have hst₅ : St (i + 1) h₅ := W.frame _ _ _ hst₁ fun b hb o e => hs₅.extBut b o (fun q => hLf (q ▸ hb)) e
    have FF : Fr h₀ env.locals h₅ (fun y => if y = xi then some v else kstB m' (ps c) y) := by rw [mapIs hk']; exact F₅
    have step := turn c i v m' h₅ tk₅ G (ownOf h₀ fp h₅) hlt hPv htk₅ hPc hnw' ownOf_sub (fun b hb o hn e => mem_ownOf hb hn e) FF (News.append N₅ (news_ownOf hLf))
    have step' := Mine.pos (Q := fun f s₃ => 0 < s₃.toks ∧ OnPost h₀ env.locals wr (ownOf h₀ fp h₅) { s with heap := h₅, toks := tk₅, gens := G } Led ps (P (i + 1)) (fun f s' => R (.ok f) s') f s₃) (s := { s with heap := h₅, toks := tk₅, gens := G }) htk₅ (wpAny_mono step (fun f s₃ q (hq : 0 < s₃.toks) => And.intro hq q) fun _ _ e => e)
    refine wpAny_mono step' (fun f s₃ h₆ => ?_) fun _ _ e => e
    obtain ⟨h7, h₆⟩ := h₆
    unfold OnPost at h₆
    have fin : OnEnd h₀ env.locals wr (ownOf h₀ fp h₅) { s with heap := h₅, toks := tk₅, gens := G } Led ps (P (i + 1)) s₃ → ∃ m, m < n + 1 - i ∧ ∃ (c : σ) (h' : Heap) (tk : Nat) (G : Array GenState) (m' : Str → Option Value) (i : Nat), s₃ = { s with heap := h', toks := tk, gens := G } ∧ 0 < tk ∧ St i h' ∧ Fr h₀ env.locals h' m' ∧ News h₀ env.locals h' (Led c) ∧ (∀ p ∈ Led c, p.1 ∉ wr) ∧ (∀ p ∈ ps c, m' p.1 = some p.2) ∧ P i c ∧ i ≤ n ∧ m = n + 1 - i := by
      intro x
      obtain ⟨c', h₆', tk₆, G₆, m₂, news₂, rfl, F₆, N₆, ho₆, hn₆, hw₆, hk₆, hp₆⟩ := onEnd_out x
      refine ⟨n + 1 - (i + 1), by omega, c', h₆', tk₆, G₆, m₂, i + 1, rfl, h7, ?_, F₆, fun p hp => N₆ p (hn₆ p hp), hw₆, hk₆, hp₆, hlt, rfl⟩
      refine W.frame _ _ _ hst₅ fun b hb o e => ?_
      cases hn : h₀.get? b with
      | some o₀ =>
        have : o₀ = o := by have q := F₅.keep b o₀ hn; rw [e] at q; exact (Option.some.inj q).symm
        exact this ▸ F₆.keep b o₀ hn
      | none => exact (N₆ _ (ho₆ _ (mem_ownOf hb hn e))).1
    cases f with
    | ret v => exact h₆
    | brk => exact h₆
    | cont => exact fin h₆
    | next => exact fin h₆
  · have hin : i = n := by omega
    subst hin
    refine W.done _ _ _ hst' fun h₁ tk₁ hk₁ htk₁ => wpAny_execs_nil ?_
    obtain ⟨F₁, N₁⟩ := next h₁ hk₁
    exact done c m' h₁ tk₁ G htk₁ hPc (by rw [mapIs hk']; exact F₁) N₁
/-- for v in a list of texts -/
theorem strs_for {σ : Type} {xi : Str} {pk : Pos} {body : List Stmt} {D : Addr} {vs : List Value} {ys : List Str} {m₀ : Str → Option Value} (Led : σ → List (Addr × Obj)) (ps : σ → List (Str × Value)) (P : Nat → σ → Prop) (c₀ : σ) (h0 : 0 < s.toks) (hh : A.handled = none)
    (hl : s.heap.IsList D vs.toArray) (hI : StrsAre vs ys) (hDL : D ≠ env.locals)
    (hxi : env.kindOf xi = some .local)
    (hp : (env.scope.kind == .class || (env.scope.kind == .module && env.locals != env.globals)) = false)
    (F : Fr h₀ env.locals s.heap m₀) (N : News h₀ env.locals s.heap (Led c₀)) (hk : ∀ p ∈ ps c₀, m₀ p.1 = some p.2) (hP : P 0 c₀)
    (turn : ∀ (c : σ) (i : Nat) (y : Str) (t : Tok) (u : Str → Option Value) (h : Heap) (tk : Nat) (G : Array GenState) (own : List (Addr × Obj)), ys[i]? = some y → 0 < tk → P i c → (∀ p ∈ Led c, p.1 ∉ [s.heap.objs.size]) → (∀ p ∈ own, p.1 ∈ [s.heap.objs.size, D]) →
      Fr h₀ env.locals h (fun z => if z = xi then some (.str y t) else kstB u (ps c) z) → News h₀ env.locals h (Led c ++ own) →
      wpAny (model prog w) A (execs body env) (OnPost h₀ env.locals [s.heap.objs.size] own { s with heap := h, toks := tk, gens := G } Led ps (P (i + 1)) Q) E { s with heap := h, toks := tk, gens := G })
    (done : ∀ (c : σ) (u : Str → Option Value) (h : Heap) (tk : Nat) (G : Array GenState), 0 < tk → P ys.length c → Fr h₀ env.locals h (kstB u (ps c)) → News h₀ env.locals h (Led c) → Q .next { s with heap := h, toks := tk, gens := G })
    (hE : PassesOwn (model prog w) A env E := by passes_own) :
    wpAny (model prog w) A (pyIter (.ref D)) (fun it s₂ =>
      codeAny (model prog w) A (.forLoop (.Name xi pk) it body [] env) (fun r s' => match r with | .ok f => Q f s' | .error e => cameBackBy (model prog w) A env E e s') s₂) E s := by
  have hLs : env.locals < s.heap.objs.size := F.ns.lt
  have hab : h₀.objs.size ≤ env.locals := F.above
  have hDlt : D < s.heap.objs.size := by obtain ⟨o, ho, _⟩ := hl; exact Heap.lt_size ho
  have hlen : vs.toArray.size = ys.length := by simpa using hI.length
  refine wpAny_pyIter_list hl ?_
  have W := Walks.list (prog := prog) (w := w) (A := A) hh s.heap.objs.size D (Nat.ne_of_lt hDlt) vs.toArray
  refine loop_one (s := { s with heap := s.heap.push { cls := .type "list_iterator", data := .fields #[.ref D, .int 0 0] } }) Led ps P c₀ h0 hh W hxi hp ?_ ?_ ?_ ?_ (F.push _) (fun p hp => ⟨Heap.get?_push_of_some _ (N p hp).1, (N p hp).2⟩) hk hP ?_ ?_
  · intro hm
    rcases List.mem_cons.mp hm with e | hm
    · exact Nat.ne_of_lt hLs e
    · exact hDL (List.mem_singleton.mp hm).symm
  · intro b hb
    rw [List.mem_singleton.mp hb]; exact Heap.get?_none_of_le (Nat.le_trans hab (Nat.le_of_lt hLs))
  · intro p hp hb
    have := Heap.lt_size (N p hp).1
    rw [List.mem_singleton.mp hb] at this; exact absurd this (Nat.lt_irrefl _)
  · exact ⟨⟨_, Heap.get?_push_size _ rfl, rfl, rfl⟩, hl.push _⟩
  · intro c i v u h tk G own hi hPv htk hPc hw hsub hmem FF NN
    have hPv' : vs[i]? = some v := by simpa using hPv
    obtain ⟨y, t, rfl, hy⟩ := StrsAre.item hI i v hPv'
    exact wpAny_passesOwn hE (turn c i y t u h tk G own hy htk hPc hw hsub FF NN)
  · intro c u h tk G htk hPc FF NN
    rw [hlen] at hPc
    exact done c u h tk G htk hPc FF NN
end
end Mine

end
section
open PySem PySem.W PyProof.Rows PySem.Calls PyProof.V PySem.Spec
set_option maxRecDepth 100000
set_option maxHeartbeats 0
namespace Mine
set_option linter.unusedVariables false
/-- a text that the generator walks plainly -/
structure Plain (x : Str) : Prop where
  hq : (Builtin.Str.occurrences x (Str.ofString "\"") 0 x.length 1).isEmpty = true
  hx : x.length ≤ 40
  hasc : x.cps.all (· < 128) = true
  hbs : ∀ (i cc : Nat), x.cps[i]? = some cc → (Str.mk #[cc] == Str.ofString "\\") = false
def preP (y : Str) : Str := if checkP y then y else Str.ofString "('', '')"
section
variable {prog : Program} {w : World} {A : Around} {E : Value → Shared → Prop} {s : Shared} {h₀ : Heap} {L D : Addr} {m : Str → Option Value} {news : List (Addr × Obj)}
theorem append_L {ws : List Value} {n : Nat} {x : Value} {Q : Value → Shared → Prop} (F : Fr h₀ L s.heap m) (N : News h₀ L s.heap ((D, W.listOf ws.toArray n) :: news)) (hne : ∀ p ∈ news, p.1 ≠ D) (hsz : ws.length ≤ 1000)
    (h : ∀ h', Fr h₀ L h' m → News h₀ L h' ((D, W.listOf (ws ++ [x]).toArray (n + 1)) :: news) → Q .none { s with heap := h' }) : wpAny (model prog w) A (call (.builtin "list.append") [.ref D, x]) Q E s := by
  refine append_K F N (Upd.head hne) (fun h' F' N' => h h' F' ?_) (by rw [List.size_toArray]; unfold sizeLine; omega)
  rw [← List.push_toArray]
  exact N'
end
theorem subx {a : Addr × Obj} {l r : List (Addr × Obj)} : ∀ p ∈ a :: l, p ∈ a :: (l ++ r) := fun p hp => by
  rcases List.mem_cons.mp hp with rfl | hp
  · exact .head _
  · exact .tail _ (List.mem_append_left _ hp)
theorem offx {D : Addr} {o o' : Obj} {l : List (Addr × Obj)} {W : List Addr} (h : ∀ p ∈ (D, o) :: l, p.1 ∉ W) : ∀ p ∈ (D, o') :: l, p.1 ∉ W := fun p hp => by
  rcases List.mem_cons.mp hp with rfl | hp
  · exact h (D, o) (.head _)
  · exact h _ (.tail _ hp)
structure PS where
  D : Addr
  ws : List Value
  zs : List Str
  k : Nat
section
local macro_rules | `(tactic| walk_at "execs cons") => `(tactic| (k_here; (fail_if_success (fail_if_success k_gentoks)); refine genT (by omega) ?_; intro tk0 htk0))
local macro_rules | `(tactic| walk_at "execs nil") => `(tactic| (k_here; (fail_if_success (fail_if_success k_gentoks)); refine genT (by omega) ?_; intro tk0 htk0))
local macro_rules | `(tactic| walk_at "pyIter ref") => `(tactic| (refine halt ?_))
local macro_rules | `(tactic| walk_at "call ref") => `(tactic| ((with_reducible show wpAny _ _ (call (Value.ref 49) _) _ _ _); k_dflt (refine' check_call ?a1 ?a2 ?a3 ?a4 ?s0 ?s3 ?s4 ?s5 ?s6 ?s7 ?s8 ?s9 ?s10 ?_; (case a1 => exact Plain.hq (by assumption)); (case a2 => exact Plain.hx (by assumption)); (case a3 => exact Plain.hasc (by assumption)); (case a4 => exact Plain.hbs (by assumption)); (case s0 => assumption); (case s3 => k_asm); (case s4 => k_asm); (case s5 => k_asm); (case s6 => k_asm); (case s7 => k_asm); (case s8 => exact rfl); (case s9 => ktr_room); (case s10 => ktr_units)); intro h9 tk9 G9 htk9 F9 N9; (try dsimp only at htk9); (try dsimp only)))
local macro_rules | `(tactic| walk_at "call builtin:list.append") => `(tactic| ((with_reducible show wpAny _ _ (call (Value.builtin _) [Value.ref _, _]) _ _ _); k_dflt (refine' append_L ?k1 ?k2 ?k3 ?k4 ?_; (case k1 => k_asm); (case k2 => k_asm); (case k3 => assumption); (case k4 => omega)); intro h' F' N'))
local macro_rules | `(tactic| walk_at "OnPost") => `(tactic| (refine halt ?_))
local macro_rules | `(tactic| walk_at "pad") => `(tactic| skip)
theorem pre_call {w : World} {mg mb : Str → Option Value} {mean : ExcName → Option Value} {D₀ : Addr} {vs : List Value} {ys : List Str} {k₀ : Nat} {news : List (Addr × Obj)}
    {dp un : Nat} {gd : Option (List Code)} {cn : Str} {cs : Scope} {a : Addr} {ccd : Value} {cl : List (Str × Addr)} {outer : List Env} {A₀ : Around} {base h₀ : Heap} {L : Addr} {m : Str → Option Value} {s : Shared} {Q E : Value → Shared → Prop}
    (hD : (D₀, W.listOf vs.toArray k₀) ∈ news) (hI : StrsAre vs ys) (hP : ∀ y ∈ ys, Plain y) (hlen : ys.length ≤ 100) (h0 : 0 < s.toks) (hB : Below A₀ base outer h₀) (F : Fr h₀ L s.heap m) (hX : (hd.heap_39 w.params).In h₀) (N : News h₀ L s.heap news) (hT : Top hd.view_39 (looseW hd.view_39 []) mean mg mb h₀) (hcs : cs.kind = .function)
    (hdp : dp + 20 < recursionLimit) (hun : un + 160 < cLine)
    (hret : ∀ (D : Addr) (ws : List Value) (k : Nat) (h' : Heap) (tk' : Nat) (G : Array GenState), 0 < tk' → StrsAre ws (ys.map preP) → Fr h₀ L h' m → News h₀ L h' ((D, W.listOf ws.toArray k) :: news) → Q (.ref D) { s with heap := h', toks := tk', gens := G }) :
    wpAny (model PySem.Challenge.rw_pg0136_01.row.prog w) (ktrTop dp un gd cn cs L a ccd cl outer) (call (.ref 56) [.ref D₀]) Q E s := by
  w_top off
  revert hX; k_fill; intro hX
  refine wpAny_call ?_
  k_dflt cell_enter
  clear F
  rename Fr _ _ _ _ => F
  refine forget F [(Str.ofString "email_header_fields", .ref D₀)] (fa1 rfl) ?_
  clear F
  intro u F
  dsimp only [kstB] at F
  k_steps
  refine wpAny_For ?_
  k_steps
  refine go ?_
  clear N
  rename Fr _ _ _ _ => F
  rename News _ _ _ _ => N
  have hl := (N _ (.tail _ hD))
  rename ∀ p ∈ news, p.1 < _ => hl1
  refine strs_for (σ := PS) (fun c => (c.D, W.listOf c.ws.toArray c.k) :: news) (fun c => [(Str.ofString "accepted_values", .ref c.D)]) (fun i c => StrsAre c.ws c.zs ∧ Hold (c.zs = (ys.take i).map preP) ∧ Hold (∀ p ∈ news, p.1 ≠ c.D)) ⟨_, [], [], _⟩ (by dsimp only; omega) rfl ⟨_, hl.1, rfl, _, rfl⟩ hI hl.2.1 rfl rfl F N (fa1 rfl) ⟨.nil, ⟨rfl⟩, ⟨fun p hp => Nat.ne_of_lt (hl1 p hp)⟩⟩ ?_ ?_
  · clear F N hl
    rintro ⟨D, ws, zs, k⟩ i y t u h tk G own hy htk ⟨hW, hz, ⟨hnD⟩⟩ hoff hsub F N
    dsimp only at *
    dsimp only [kstB] at F
    have hpl : Plain y := hP y (List.mem_of_getElem? hy)
    have hi : i < ys.length := (List.getElem?_eq_some_iff.mp hy).1
    simp only [List.cons_append] at N
    have hne : ∀ p ∈ news ++ own, p.1 ≠ D := by
      intro p hp
      rcases List.mem_append.mp hp with hp | hp
      · exact hnD p hp
      · intro q
        have hm := hsub p hp
        rw [q] at hm
        rcases List.mem_cons.mp hm with r | hm
        · exact hoff _ (.head _) (by rw [r]; exact .head _)
        · exact hnD _ hD (List.mem_singleton.mp hm).symm
    have hws : ws.length ≤ 1000 := by
      have h1 : ws.length = zs.length := hW.length
      rw [h1, hz.out, List.length_map, List.length_take]
      omega
    have htake : ∀ z, preP y = z → zs ++ [z] = (ys.take (i + 1)).map preP := by
      intro z e
      rw [hz.out, List.take_add_one, hy, List.map_append, ← e]
      rfl
    replace hnD := Hold.mk hnD
    replace hoff := Hold.mk hoff
    replace hsub := Hold.mk hsub
    k_steps
    all_goals
      refine go ?_
      rename Fr _ _ _ _ => F
      rename News _ _ _ _ => N
    · refine on_end ⟨_, _, _, _⟩ F N (fun p hp => .tail _ (List.mem_append_right _ hp)) subx (offx hoff.out) (fa1 rfl) ⟨hW.append' (.cons _ _ .nil), ⟨htake _ ?_⟩, hnD⟩
      unfold preP
      exact if_pos (by assumption)
    · refine on_end ⟨_, _, _, _⟩ F N (fun p hp => .tail _ (List.mem_append_right _ hp)) subx (offx hoff.out) (fa1 rfl) ⟨hW.append' (.cons _ _ .nil), ⟨htake _ ?_⟩, hnD⟩
      unfold preP
      exact if_neg (by simp [*])
  · clear F N hl
    rintro ⟨D, ws, zs, k⟩ u h tk G htk ⟨hW, ⟨hz⟩, hnD⟩ F N
    dsimp only at *
    dsimp only [kstB] at F
    rw [List.take_length] at hz
    cases hz
    k_steps
    exact hret _ _ _ _ _ _ htk hW (by assumption) (by assumption)
end
end Mine

end
section
open PySem PySem.W PyProof.Rows PySem.Calls PyProof.V PySem.Spec
set_option maxRecDepth 100000
set_option maxHeartbeats 0
set_option linter.unusedVariables false
namespace Mine
open LCg
/-- one turn of a comprehension is over: its three objects stand, the ledger stands -/
@[irreducible] def CEnd (h₀ : Heap) (L : Addr) (m : Str → Option Value) (s₁ : Shared) (base : List (Addr × Obj)) (P : Value → Prop) (y : Value) (s₂ : Shared) : Prop :=
  ∃ h' tk all, s₂ = { s₁ with heap := h', toks := tk } ∧ Fr h₀ L h' m ∧ News h₀ L h' all ∧ (∀ p ∈ base, p ∈ all) ∧ P y
theorem c_end {h₀ : Heap} {L : Addr} {m : Str → Option Value} {s₁ : Shared} {base : List (Addr × Obj)} {P : Value → Prop} {y : Value} {h' : Heap} {tk : Nat} {all : List (Addr × Obj)} (F : Fr h₀ L h' m) (N : News h₀ L h' all) (sub : ∀ p ∈ base, p ∈ all) (hp : P y) :
    CEnd h₀ L m s₁ base P y { s₁ with heap := h', toks := tk } := by unfold CEnd; exact ⟨h', tk, all, rfl, F, N, sub, hp⟩
theorem c_out {h₀ : Heap} {L : Addr} {m : Str → Option Value} {s₁ s₂ : Shared} {base : List (Addr × Obj)} {P : Value → Prop} {y : Value} (h : CEnd h₀ L m s₁ base P y s₂) : ∃ h' tk all, s₂ = { s₁ with heap := h', toks := tk } ∧ Fr h₀ L h' m ∧ News h₀ L h' all ∧ (∀ p ∈ base, p ∈ all) ∧ P y := by
  unfold CEnd at h; exact h
section
variable {prog : Program} {w : World} {A : Around} {E : Value → Shared → Prop} {s : Shared} {h₀ : Heap} {L : Addr} {m : Str → Option Value} {env : Env}
/-- behind a comprehension's source -/
@[irreducible] def CSrc (prog : Program) (w : World) (A : Around) (env : Env) (elt iter : PySem.Expr) (x : Str) (px : Pos) (ifs : List PySem.Expr) (scope : Scope) (cl : List (Str × Addr)) (pos : Pos) (RR : Value → Addr → Result → Shared → Prop) (E : Value → Shared → Prop) (xv : Value) (s₁ : Shared) : Prop :=
  wpAny (model prog w) A (pyIter xv) (fun it s₂ => wpAny (model prog w) A (newList []) (fun acc s₃ => wpAny (model prog w) A (newFunctionEnv scope env.globals cl [] env.qual none .none (some env)) (fun cenv s₄ =>
      codeAny (model prog w) A (.compStart (.ListComp elt [⟨.Name x px, iter, ifs, 0⟩] scope pos) 0 it acc { cenv with scope := relabel scope env }) (RR acc cenv.locals) s₄) E s₃) E s₂) E s₁
theorem comp_at {elt iter : PySem.Expr} {x : Str} {px : Pos} {ifs : List PySem.Expr} {scope : Scope} {cl : List (Str × Addr)} {pos : Pos} {Q : Value → Shared → Prop}
    (hclos : closureFor scope env = pure cl) (hkind : scope.kind = .function) (hnames : ∀ y ∈ scope.names, y.2 = .local → scope.names.lookup y.1 = some .local)
    (h : wpAny (model prog w) A (eval iter env) (CSrc prog w A env elt iter x px ifs scope cl pos (compPost (model prog w) A E none Q) E) E s)
    (hs : ∀ x, foldedSetIterable iter env x = pure x := by intro _; rfl) :
    wpAny (model prog w) A (eval (.ListComp elt [⟨.Name x px, iter, ifs, 0⟩] scope pos) env) Q E s := by
  rw [eval_ListComp]
  refine wpAny_comprehension_free (use := none) rfl hs hclos hkind hnames (wpAny_mono h (fun xv s₁ h₁ => ?_) fun _ _ e => e)
  unfold CSrc at h₁
  exact h₁
theorem comp_asg_at {elt iter : PySem.Expr} {x y : Str} {px py : Pos} {ifs : List PySem.Expr} {scope : Scope} {cl : List (Str × Addr)} {pos spos : Pos} {Q : Flow → Shared → Prop}
    (hsw : swapsWith (.ListComp elt [⟨.Name x px, iter, ifs, 0⟩] scope pos) (some (.Name y py)) spos.line env = pure true)
    (hclos : closureFor scope env = pure cl) (hkind : scope.kind = .function) (hnames : ∀ y ∈ scope.names, y.2 = .local → scope.names.lookup y.1 = some .local)
    (h : wpAny (model prog w) A (eval iter env) (CSrc prog w A env elt iter x px ifs scope cl pos (compPost (model prog w) A E (some (assign (.Name y py) env)) (fun _ s' => Q .next s')) E) E s)
    (hs : ∀ x, foldedSetIterable iter env x = pure x := by intro _; rfl) :
    wpAny (model prog w) A (exec (.Assign [.Name y py] (.ListComp elt [⟨.Name x px, iter, ifs, 0⟩] scope pos) spos) env) Q E s := by
  rw [exec_Assign_Name_used _ _ _ _ hsw]
  refine wpAny_bind (wpAny_standAt (wpAny_bind ?_))
  show wpAny _ A (do let _ ← comprehension (.ListComp elt [⟨.Name x px, iter, ifs, 0⟩] scope pos) scope env _ (newList []) false (eval iter env) (some (assign (.Name y py) env))) _ _ s
  refine wpAny_bind (wpAny_mono (wpAny_comprehension_free (use := some (assign (.Name y py) env)) (Q := fun _ s' => Q .next s') rfl hs hclos hkind hnames
    (wpAny_mono h (fun xv s₁ h₁ => ?_) fun _ _ e => e)) (fun _ s' hq => wpAny_pure (wpAny_pure hq)) fun _ _ e => e)
  unfold CSrc at h₁
  exact h₁
theorem comp_core {elt iter : PySem.Expr} {x : Str} {px : Pos} {ifs : List PySem.Expr} {scope : Scope} {cl : List (Str × Addr)} {pos : Pos} {RR : Value → Addr → Result → Shared → Prop} {D₀ : Addr} {vs : List Value} {k₀ : Nat} {news : List (Addr × Obj)} (P : Nat → List Value → Prop)
    (h0 : 0 < s.toks) (hh : A.handled = none) (hcell : ∀ y ∈ scope.names, y.2 ≠ .cell) (hkind : scope.kind = .function) (hx : scope.names.lookup x = some .local)
    (hD₀ : (D₀, W.listOf vs.toArray k₀) ∈ news) (hsz : vs.length ≤ sizeLine)
    (F : Fr h₀ L s.heap m) (N : News h₀ L s.heap news) (hP : P 0 [])
    (turn : ∀ i v I oI C oC D m₂ ys h tk (E' : Value → Shared → Prop), vs[i]? = some v → 0 < tk → P i ys → NsObj oC m₂ → m₂ x = some v → Fr h₀ L h m → News h₀ L h ((I, oI) :: (C, oC) :: (D, lst ys) :: news) → Off3 I C D news → ((@Ne Nat I C) ∧ (@Ne Nat I D) ∧ (@Ne Nat C D)) →
      wpAny (model prog w) A (forIn ifs true fun c r => if r = true then do let ok ← isTrue c (compEnvC scope cl C env) (eval c (compEnvC scope cl C env)); pure (ForInStep.yield ok) else pure (ForInStep.yield r)) (fun ok s' => 0 < s'.toks → if ok = true then
        wpAny (model prog w) A (eval elt (compEnvC scope cl C env)) (CEnd h₀ L m { s with heap := h, toks := tk } ((I, oI) :: (C, oC) :: (D, lst ys) :: news) (fun y => P (i + 1) (ys ++ [y]))) E' s'
        else CEnd h₀ L m { s with heap := h, toks := tk } ((I, oI) :: (C, oC) :: (D, lst ys) :: news) (fun _ => P (i + 1) ys) Value.none s') E' { s with heap := h, toks := tk })
    (done : ∀ D C ys h tk m', 0 < tk → P vs.length ys → Fr h₀ L h m → News h₀ L h ((D, lst ys) :: news) → (∀ p ∈ news, p.1 < D) → h.Ns C m' → h₀.get? C = none → C ≠ L → D ≠ L → (∀ p ∈ (D, lst ys) :: news, p.1 ≠ C) → RR (.ref D) C (.ok .next) { s with heap := h, toks := tk }) :
    CSrc prog w A env elt iter x px ifs scope cl pos RR E (.ref D₀) s := by
  unfold CSrc
  have hl₀ := N _ hD₀
  have hl : s.heap.IsList D₀ vs.toArray := ⟨_, hl₀.1, rfl, _, rfl⟩
  have hlt : D₀ < s.heap.objs.size := Heap.lt_size hl₀.1
  have hLlt : L < s.heap.objs.size := F.ns.lt
  have hnlt : ∀ p ∈ news, p.1 < s.heap.objs.size := fun p hp => Heap.lt_size (N p hp).1
  have hab : h₀.objs.size ≤ s.heap.objs.size := Nat.le_trans F.above (Nat.le_of_lt hLlt)
  have new₀ : ∀ b, s.heap.objs.size ≤ b → h₀.get? b = none := fun b hb => Heap.get?_none_of_le (Nat.le_trans hab hb)
  refine wpAny_pyIter_list hl ?_
  refine wpAny_newObj_type (wpAny_newFunctionEnv hcell (by intro y hy; simp at hy) (fun h₁ hns₁ hsb₁ => ?_) hkind)
  dsimp only at hns₁ hsb₁ ⊢
  generalize hH1 : s.heap.push { cls := .type "list_iterator", data := .fields #[.ref D₀, .int 0 0] } = H1 at hns₁ hsb₁ ⊢
  have hD : H1.objs.size = s.heap.objs.size + 1 := by rw [← hH1, Heap.size_push]
  generalize hH2 : H1.push { cls := .type "list", data := .seq #[] } = H2 at hns₁ hsb₁ ⊢
  have hC : H2.objs.size = H1.objs.size + 1 := by rw [← hH2, Heap.size_push]
  generalize eI : s.heap.objs.size = I at *
  generalize eD : H1.objs.size = D at *
  generalize eC : H2.objs.size = C at *
  have hID : I < D := by rw [hD]; exact Nat.lt_succ_self _
  have hDC : D < C := by rw [hC]; exact Nat.lt_succ_self _
  have hIC : I < C := Nat.lt_trans hID hDC
  have up12 : ∀ b o, H1.get? b = some o → h₁.get? b = some o := fun b o q => by
    have : b ≠ C := Nat.ne_of_lt (Nat.lt_trans (eD ▸ Heap.lt_size q) hDC)
    exact hsb₁.extBut b o this (Heap.get?_push_of_some _ (hH2 ▸ Heap.get?_push_of_some _ q))
  have up : ∀ b o, s.heap.get? b = some o → h₁.get? b = some o := fun b o q => up12 b o (hH1 ▸ Heap.get?_push_of_some _ q)
  have hIo : h₁.get? I = some { cls := .type "list_iterator", data := .fields #[.ref D₀, .int 0 0] } := up12 _ _ (by rw [← hH1, ← eI]; exact Heap.get?_push_size _ rfl)
  have hDo : h₁.get? D = some (lst []) := hsb₁.extBut _ _ (Nat.ne_of_lt hDC) (Heap.get?_push_of_some _ (by rw [← hH2, ← eD]; exact Heap.get?_push_size _ rfl))
  have hIL : L ≠ I := Nat.ne_of_lt hLlt
  have hDL : D ≠ L := Nat.ne_of_gt (Nat.lt_trans hLlt hID)
  have hCL : C ≠ L := Nat.ne_of_gt (Nat.lt_trans hLlt hIC)
  have hI₀ : h₀.get? I = none := new₀ _ (Nat.le_refl _)
  have hD₀' : h₀.get? D = none := new₀ _ (Nat.le_of_lt hID)
  have hC₀ : h₀.get? C = none := new₀ _ (Nat.le_of_lt hIC)
  have off : Off3 I C D news := Off3.of fun p hp => ⟨Nat.ne_of_lt (hnlt p hp), Nat.ne_of_lt (Nat.lt_trans (hnlt p hp) hIC), Nat.ne_of_lt (Nat.lt_trans (hnlt p hp) hID)⟩
  have hD₀I : D₀ ≠ I := Nat.ne_of_lt hlt
  have W := Walks.list (prog := prog) (w := w) (A := A) hh I D₀ hD₀I vs.toArray
  have hn : vs.toArray.size = vs.length := List.size_toArray
  rw [hn] at W
  have lis : ∀ h ys, News h₀ L h ((D, lst ys) :: news) → h.IsList D₀ vs.toArray := fun h ys NN => ⟨_, (NN _ (.tail _ hD₀)).1, rfl, _, rfl⟩
  have loop : ∀ tk, 0 < tk → codeAny (model prog w) A (.compLoop (.ListComp elt [⟨.Name x px, iter, ifs, 0⟩] scope pos) 0 (.ref I) (.ref D) (compEnvC scope cl C env)) (RR (.ref D) C) { s with heap := h₁, toks := tk } := by
    intro tk htk
    refine codeAny_compLoop_tests
      (fun k s' => ∃ h' tk i ys m', s' = { s with heap := h', toks := tk } ∧ 0 < tk ∧ i ≤ vs.length ∧ k = vs.length + 1 - i ∧ ys.length ≤ i ∧ h'.IsListIter I D₀ i ∧ Fr h₀ L h' m ∧ h'.Ns C m' ∧ News h₀ L h' ((D, lst ys) :: news) ∧ P i ys) ?_ (vs.length + 1)
      ⟨h₁, tk, 0, [], _, rfl, htk, Nat.zero_le _, rfl, Nat.le_refl _, ⟨_, hIo, rfl, rfl⟩, F.keeps up, hns₁, fun p hp => ?_, hP⟩
    · rintro k s' ⟨h', tk', i, ys, m', rfl, htk', hi, rfl, hyl, hit, F', hn', N', hPi⟩
      refine Mine.pos (s := { s with heap := h', toks := tk' }) htk' ?_
      have keep : ∀ h₂ : Heap, (∀ b o, b ∉ [I] → h'.get? b = some o → h₂.get? b = some o) → Fr h₀ L h₂ m ∧ News h₀ L h₂ ((D, lst ys) :: news) ∧ h₂.Ns C m' := fun h₂ hk₂ =>
        ⟨⟨F'.ns.at' fun o q => hk₂ _ o (fun r => hIL (List.mem_singleton.mp r)) q, fun b o q => hk₂ b o (fun r => by rw [List.mem_singleton.mp r, hI₀] at q; cases q) (F'.keep b o q), F'.above⟩,
         fun p hp => ⟨hk₂ _ _ (fun r => by
            have r' := List.mem_singleton.mp r
            rcases List.mem_cons.mp hp with rfl | hp
            · exact Nat.ne_of_gt hID r'
            · exact Nat.ne_of_lt (hnlt p hp) r') (N' p hp).1, (N' p hp).2⟩,
         hn'.at' fun o q => hk₂ _ o (fun r => Nat.ne_of_gt hIC (List.mem_singleton.mp r)) q⟩
      by_cases hlt' : i < vs.length
      · refine W.item i _ _ _ hlt' ⟨hit, lis _ _ N'⟩ fun v h₂ tk₂ hPv hst₂ hk₂ htk₂ => ?_
        obtain ⟨F₂, N₂, hn₂⟩ := keep h₂ hk₂
        refine Mine.pos (s := { s with heap := h₂, toks := tk₂ }) htk₂ ?_
        refine wpAny_assign_Name (wpAny_storeName_local (lookup_relabel_local hx) hn₂ (fun h₃ hn₃ hs₃ => ?_) (by simp [compEnvC, relabel, hkind]))
        intro htk₃
        refine genT htk₃ fun tk₃ htk₃ => ?_
        replace hs₃ : Heap.SameBut C h₂ h₃ := hs₃
        have F₃ : Fr h₀ L h₃ m := F₂.change hs₃ hCL hC₀
        obtain ⟨oC, heC, hoC⟩ := ns_obj hn₃
        obtain ⟨oI, heI, hcI⟩ := hst₂.1
        have heI₃ : h₃.get? I = some oI := hs₃.extBut _ _ (Nat.ne_of_lt hIC) heI
        have N₃ : News h₀ L h₃ ((I, oI) :: (C, oC) :: (D, lst ys) :: news) := fun p hp => by
          rcases List.mem_cons.mp hp with rfl | hp
          · exact ⟨heI₃, Ne.symm hIL, hI₀⟩
          · rcases List.mem_cons.mp hp with rfl | hp
            · exact ⟨heC, hCL, hC₀⟩
            · refine ⟨hs₃.extBut _ _ ?_ (N₂ p hp).1, (N₂ p hp).2⟩
              rcases List.mem_cons.mp hp with rfl | hp
              · exact Nat.ne_of_lt hDC
              · exact Nat.ne_of_lt (Nat.lt_trans (hnlt p hp) hIC)
        have hPv' : vs[i]? = some v := by simpa using hPv
        have fin : ∀ h₄ all, News h₀ L h₄ all → (∀ p ∈ (I, oI) :: (C, oC) :: (D, lst ys) :: news, p ∈ all) → h₄.IsListIter I D₀ (i + 1) ∧ h₄.get? C = some oC ∧ h₄.get? D = some (lst ys) ∧ News h₀ L h₄ ((D, lst ys) :: news) := fun h₄ all N₄ sub =>
          ⟨⟨oI, (N₄ _ (sub _ (.head _))).1, hcI⟩, (N₄ _ (sub _ (.tail _ (.head _)))).1, (N₄ _ (sub _ (.tail _ (.tail _ (.head _))))).1, fun p hp => N₄ p (sub p (.tail _ (.tail _ hp)))⟩
        refine Mine.pos (s := { s with heap := h₃, toks := tk₃ }) htk₃ (wpAny_mono (turn i v I oI C oC D _ ys h₃ tk₃ _ hPv' htk₃ hPi hoC (by simp) F₃ N₃ off ⟨Nat.ne_of_lt hIC, Nat.ne_of_lt hID, Nat.ne_of_gt hDC⟩) (fun ok s₃ t₃ htk₄ => ?_) fun _ _ e => e)
        have t₃ := t₃ htk₄
        cases ok with
        | false =>
          rw [if_neg Bool.false_ne_true] at t₃ ⊢
          obtain ⟨h₄, tk₄, all, rfl, F₄, N₄, sub, hP₄⟩ := c_out t₃
          obtain ⟨hit₄, heC₄, heD₄, N₄'⟩ := fin h₄ all N₄ sub
          exact ⟨vs.length + 1 - (i + 1), by omega, h₄, tk₄, i + 1, ys, _, rfl, htk₄, hlt', rfl, by omega, hit₄, F₄, hoC.ns heC₄, N₄', hP₄⟩
        | true =>
          rw [if_pos rfl] at t₃ ⊢
          refine Mine.pos htk₄ (wpAny_mono t₃ (fun y s₄ t₄ htk₅ => ?_) fun _ _ e => e)
          obtain ⟨h₄, tk₄, all, rfl, F₄, N₄, sub, hP₄⟩ := c_out t₄
          obtain ⟨hit₄, heC₄, heD₄, N₄'⟩ := fin h₄ all N₄ sub
          refine append_at (hsz := by show ys.toArray.size ≤ sizeLine; rw [List.size_toArray]; omega) heD₄ fun h₅ hs₅ hD₅ => ?_
          refine ⟨vs.length + 1 - (i + 1), by omega, h₅, tk₄, i + 1, ys ++ [y], _, rfl, htk₅, hlt', rfl, by rw [List.length_append, List.length_singleton]; omega, ?_, F₄.change hs₅ hDL hD₀', (hoC.ns heC₄).sameBut hs₅ (Nat.ne_of_gt hDC), fun p hp => ?_, hP₄⟩
          · obtain ⟨o, q, r⟩ := hit₄
            exact ⟨o, hs₅.extBut _ _ (Nat.ne_of_lt hID) q, r⟩
          · rcases List.mem_cons.mp hp with rfl | hp
            · exact ⟨hD₅.trans (congrArg some (lst_snoc ys y)), hDL, hD₀'⟩
            · exact ⟨hs₅.extBut _ _ (Nat.ne_of_lt (Nat.lt_trans (hnlt p hp) hID)) (N₄' p (.tail _ hp)).1, (N₄' p (.tail _ hp)).2⟩
      · have hin : i = vs.length := by omega
        subst hin
        refine W.done _ _ _ ⟨hit, lis _ _ N'⟩ fun h₂ tk₂ hk₂ htk₂ => ?_
        obtain ⟨F₂, N₂, hn₂⟩ := keep h₂ hk₂
        refine done D C ys h₂ tk₂ m' htk₂ hPi F₂ N₂ (fun p hp => Nat.lt_trans (hnlt p hp) hID) hn₂ hC₀ hCL hDL fun p hp => ?_
        rcases List.mem_cons.mp hp with rfl | hp
        · exact Nat.ne_of_lt hDC
        · exact Nat.ne_of_lt (Nat.lt_trans (hnlt p hp) hIC)
    · rcases List.mem_cons.mp hp with rfl | hp
      · exact ⟨hDo, hDL, hD₀'⟩
      · exact ⟨up _ _ (N p hp).1, (N p hp).2⟩
  exact codeAny_compStart_list (loop _ h0) (W.self 0 _ _ _ ⟨⟨_, hIo, rfl, rfl⟩, ⟨_, up _ _ hl₀.1, rfl, _, rfl⟩⟩ (loop _ h0))
theorem comp_list {elt iter : PySem.Expr} {x : Str} {px : Pos} {ifs : List PySem.Expr} {scope : Scope} {cl : List (Str × Addr)} {pos : Pos} {Q : Value → Shared → Prop} {D₀ : Addr} {vs : List Value} {k₀ : Nat} {news : List (Addr × Obj)} (P : Nat → List Value → Prop)
    (h0 : 0 < s.toks) (hh : A.handled = none) (hcell : ∀ y ∈ scope.names, y.2 ≠ .cell) (hkind : scope.kind = .function) (hx : scope.names.lookup x = some .local)
    (hD₀ : (D₀, W.listOf vs.toArray k₀) ∈ news) (hsz : vs.length ≤ sizeLine)
    (F : Fr h₀ L s.heap m) (N : News h₀ L s.heap news) (hP : P 0 [])
    (turn : ∀ i v I oI C oC D m₂ ys h tk (E' : Value → Shared → Prop), vs[i]? = some v → 0 < tk → P i ys → NsObj oC m₂ → m₂ x = some v → Fr h₀ L h m → News h₀ L h ((I, oI) :: (C, oC) :: (D, lst ys) :: news) → Off3 I C D news → ((@Ne Nat I C) ∧ (@Ne Nat I D) ∧ (@Ne Nat C D)) →
      wpAny (model prog w) A (forIn ifs true fun c r => if r = true then do let ok ← isTrue c (compEnvC scope cl C env) (eval c (compEnvC scope cl C env)); pure (ForInStep.yield ok) else pure (ForInStep.yield r)) (fun ok s' => 0 < s'.toks → if ok = true then
        wpAny (model prog w) A (eval elt (compEnvC scope cl C env)) (CEnd h₀ L m { s with heap := h, toks := tk } ((I, oI) :: (C, oC) :: (D, lst ys) :: news) (fun y => P (i + 1) (ys ++ [y]))) E' s'
        else CEnd h₀ L m { s with heap := h, toks := tk } ((I, oI) :: (C, oC) :: (D, lst ys) :: news) (fun _ => P (i + 1) ys) Value.none s') E' { s with heap := h, toks := tk })
    (done : ∀ D ys h tk, 0 < tk → P vs.length ys → Fr h₀ L h m → News h₀ L h ((D, lst ys) :: news) → (∀ p ∈ news, p.1 < D) → Q (.ref D) { s with heap := h, toks := tk }) :
    CSrc prog w A env elt iter x px ifs scope cl pos (compPost (model prog w) A E none Q) E (.ref D₀) s := by
  refine comp_core P h0 hh hcell hkind hx hD₀ hsz F N hP turn ?_
  intro D C ys h tk m' htk hPn F' N' lt hn hC₀ hCL hDL off
  exact ⟨m', hn, fun h'' hs'' => done D ys h'' tk htk hPn (F'.change hs'' hCL hC₀) (fun p hp => ⟨hs''.extBut _ _ (off p hp) (N' p hp).1, (N' p hp).2⟩) lt⟩
theorem comp_asg {elt iter : PySem.Expr} {x y : Str} {px py : Pos} {ifs : List PySem.Expr} {scope : Scope} {cl : List (Str × Addr)} {pos : Pos} {Q : Shared → Prop} {D₀ : Addr} {vs : List Value} {k₀ : Nat} {news : List (Addr × Obj)} (P : Nat → List Value → Prop)
    (hLe : env.locals = L) (hy : env.kindOf y = some .local) (hp : (env.scope.kind == .class || (env.scope.kind == .module && env.locals != env.globals)) = false)
    (h0 : 0 < s.toks) (hh : A.handled = none) (hcell : ∀ y ∈ scope.names, y.2 ≠ .cell) (hkind : scope.kind = .function) (hx : scope.names.lookup x = some .local)
    (hD₀ : (D₀, W.listOf vs.toArray k₀) ∈ news) (hsz : vs.length ≤ sizeLine)
    (F : Fr h₀ L s.heap m) (N : News h₀ L s.heap news) (hP : P 0 [])
    (turn : ∀ i v I oI C oC D m₂ ys h tk (E' : Value → Shared → Prop), vs[i]? = some v → 0 < tk → P i ys → NsObj oC m₂ → m₂ x = some v → Fr h₀ L h m → News h₀ L h ((I, oI) :: (C, oC) :: (D, lst ys) :: news) → Off3 I C D news → ((@Ne Nat I C) ∧ (@Ne Nat I D) ∧ (@Ne Nat C D)) →
      wpAny (model prog w) A (forIn ifs true fun c r => if r = true then do let ok ← isTrue c (compEnvC scope cl C env) (eval c (compEnvC scope cl C env)); pure (ForInStep.yield ok) else pure (ForInStep.yield r)) (fun ok s' => 0 < s'.toks → if ok = true then
        wpAny (model prog w) A (eval elt (compEnvC scope cl C env)) (CEnd h₀ L m { s with heap := h, toks := tk } ((I, oI) :: (C, oC) :: (D, lst ys) :: news) (fun y => P (i + 1) (ys ++ [y]))) E' s'
        else CEnd h₀ L m { s with heap := h, toks := tk } ((I, oI) :: (C, oC) :: (D, lst ys) :: news) (fun _ => P (i + 1) ys) Value.none s') E' { s with heap := h, toks := tk })
    (done : ∀ D ys h tk, 0 < tk → P vs.length ys → Fr h₀ L h (fun z => if z = y then some (.ref D) else m z) → News h₀ L h ((D, lst ys) :: news) → (∀ p ∈ news, p.1 < D) → Q { s with heap := h, toks := tk }) :
    CSrc prog w A env elt iter x px ifs scope cl pos (compPost (model prog w) A E (some (assign (.Name y py) env)) (fun _ s' => Q s')) E (.ref D₀) s := by
  subst hLe
  refine comp_core P h0 hh hcell hkind hx hD₀ hsz F N hP turn ?_
  intro D C ys h tk m' htk hPn F' N' lt hn hC₀ hCL hDL off
  show wpAny _ A (assign (.Name y py) env (.ref D)) _ _ _
  refine wpAny_assign_Name (wpAny_storeName_local hy F'.ns (fun h₂ hn₂ hs₂ => ?_) hp)
  replace hs₂ : Heap.SameBut env.locals h h₂ := hs₂
  have F₂ := F'.set hn₂ hs₂
  have N₂ := N'.set hs₂
  exact ⟨m', hn.sameBut hs₂ hCL, fun h'' hs'' => done D ys h'' _ (Nat.succ_pos _) hPn (F₂.change hs'' hCL hC₀) (fun p hp => ⟨hs''.extBut _ _ (off p hp) (N₂ p hp).1, (N₂ p hp).2⟩) lt⟩
end
end Mine

end
section
open PySem PySem.W PyProof.Rows PySem.Calls PyProof.V PySem.Spec
set_option maxRecDepth 100000
set_option maxHeartbeats 400000
namespace Mine
theorem tx_lay : ∀ ns : List Str, (∀ x ∈ ns, PyData.canLay0 (.str x) = true) → PyData.canLayAll0 (ns.map PyData.str) = true
  | [], _ => rfl
  | x :: r, h => by
    simp only [List.map_cons, PyData.canLayAll0, Bool.and_eq_true]
    exact ⟨h x (.head _), tx_lay r fun y hy => h y (.tail _ hy)⟩
theorem tx_depth : ∀ ns : List Str, PyData.depthAll (ns.map PyData.str) = 0
  | [] => rfl
  | _ :: r => by simp [PyData.depthAll, PyData.depth, tx_depth r]
theorem tx_shaped (ns : List Str) (h : ∀ x ∈ ns, PyData.canLay0 (.str x) = true) : SeqAt.shaped (.list (ns.map PyData.str)) = true := by
  simp [SeqAt.shaped, PyData.canLay0, PyData.depth, tx_lay ns h, tx_depth]
theorem tx_sameAll : ∀ ns ms : List Str, PySem.Spec.sameAll (ns.map PyData.str) (ms.map PyData.str) = decide (ns = ms)
  | [], [] => by simp [PySem.Spec.sameAll]
  | [], _ :: _ => by simp [PySem.Spec.sameAll]
  | _ :: _, [] => by simp [PySem.Spec.sameAll]
  | a :: r, b :: t => by
    simp only [List.map_cons, PySem.Spec.sameAll, PySem.Spec.same, tx_sameAll r t]
    by_cases h : a = b <;> by_cases h' : r = t <;> simp [h, h']
theorem tx_same (ns ms : List Str) : PySem.Spec.same (.list (ns.map PyData.str)) (.list (ms.map PyData.str)) = decide (ns = ms) := by
  simp only [PySem.Spec.same]; exact tx_sameAll ns ms
section
variable {prog : Program} {w : World} {A : Around} {E : Value → Shared → Prop} {s : Shared} {a b : Addr} {xs ys : List Value} {ns ms : List Str} {Q : Value → Shared → Prop}
theorem ne_texts (ha : s.heap.IsList a xs.toArray) (hb : s.heap.IsList b ys.toArray) (hi : StrsAre xs ns) (hj : StrsAre ys ms) (h1 : ∀ x ∈ ns, PyData.canLay0 (.str x) = true) (h2 : ∀ x ∈ ms, PyData.canLay0 (.str x) = true) (hu : A.units + 64 < cLine) (h : Q (.bool (!decide (ns = ms))) s) :
    wpAny (model prog w) A (compareOp .NotEq (.ref a) (.ref b)) Q E s :=
  ne_dataH_same (reads_newData ha hi.carried) (reads_newData hb hj.carried) (tx_shaped _ h1) (tx_shaped _ h2) hu (SeqAt.noMix_of_shape (.list .str) rfl _ _ (list_map_has fun _ => rfl) (list_map_has fun _ => rfl)) (by rw [tx_same]; exact h)
end
end Mine

end
section
open PySem PySem.W PyProof.Rows PySem.Calls PyProof.V PySem.Spec
set_option maxRecDepth 100000
set_option maxHeartbeats 0
namespace Mine
set_option linter.unusedVariables false
def rowsI : Nat → Int → Int → List Str
  | 0, _, _ => []
  | n + 1, o, c => if o = 0 ∨ c = 0 then [Txt.mul (Str.ofString "(") o ++ Txt.mul (Str.ofString ")") c] else (rowsI n (o - 1) c).map (fun r => Str.ofString "(" ++ r) ++ (rowsI n o (c - 1)).map (fun r => Str.ofString ")" ++ r)
theorem mul1 {x : Str} (hx : x.length = 1) {n : Int} (hn : 0 ≤ n) : ((Txt.mul x n).length : Int) = n := by
  rw [len_mul_k1 hx, if_neg (by omega), Int.one_mul]
theorem rows_len : ∀ (n : Nat) (o c : Int), 0 ≤ o → 0 ≤ c → o + c = n → (rowsI (n + 1) o c).length ≤ 2 ^ n ∧ ∀ y ∈ rowsI (n + 1) o c, y.length = n := by
  intro n
  induction n with
  | zero =>
    intro o c ho hc hn
    have h1 : o = 0 := by omega
    have h2 : c = 0 := by omega
    subst h1 h2
    exact ⟨by decide, by decide⟩
  | succ n ih =>
    intro o c ho hc hn
    unfold rowsI
    by_cases hz : o = 0 ∨ c = 0
    · rw [if_pos hz]
      refine ⟨by rw [List.length_singleton]; exact Nat.one_le_two_pow, fun y hy => ?_⟩
      rw [List.mem_singleton.mp hy, PySem.Str.length_append]
      have a1 := mul1 (x := Str.ofString "(") (by decide) ho
      have a2 := mul1 (x := Str.ofString ")") (by decide) hc
      omega
    · rw [if_neg hz]
      have i1 := ih (o - 1) c (by omega) hc (by omega)
      have i2 := ih o (c - 1) ho (by omega) (by omega)
      refine ⟨?_, fun y hy => ?_⟩
      · rw [List.length_append, List.length_map, List.length_map, Nat.pow_succ]
        omega
      · rcases List.mem_append.mp hy with hy | hy
        · obtain ⟨r, hr, rfl⟩ := List.mem_map.mp hy
          rw [PySem.Str.length_append, i1.2 r hr]
          show 1 + n = n + 1
          omega
        · obtain ⟨r, hr, rfl⟩ := List.mem_map.mp hy
          rw [PySem.Str.length_append, i2.2 r hr]
          show 1 + n = n + 1
          omega
def RowsC (n : Nat) : Prop := ∀ {w : World} {mg mb : Str → Option Value} {mean : ExcName → Option Value} {o c : Int} {to tc : Tok} {news : List (Addr × Obj)}
    {dp un : Nat} {gd : Option (List Code)} {cn : Str} {cs : Scope} {a : Addr} {ccd : Value} {cl : List (Str × Addr)} {outer : List Env} {A₀ : Around} {base h₀ : Heap} {L : Addr} {m : Str → Option Value} {s : Shared} {Q E : Value → Shared → Prop}
    (ho : 0 ≤ o) (hc : 0 ≤ c) (hn : o + c = n) (h6 : n ≤ 6) (h0 : 0 < s.toks) (hB : Below A₀ base outer h₀) (F : Fr h₀ L s.heap m) (hX : (hd.heap_39 w.params).In h₀) (N : News h₀ L s.heap news) (hT : Top hd.view_39 (looseW hd.view_39 []) mean mg mb h₀) (hcs : cs.kind = .function)
    (hdp : dp + (10 * n + 10) < recursionLimit) (hun : un + (80 * n + 80) < cLine)
    (hret : ∀ (D : Addr) (vs : List Value) (k : Nat) (h' : Heap) (tk' : Nat), StrsAre vs (rowsI (n + 1) o c) → Fr h₀ L h' m → News h₀ L h' ((D, W.listOf vs.toArray k) :: news) → (∀ p ∈ news, p.1 < D) → Q (.ref D) { s with heap := h', toks := tk' }),
    wpAny (model PySem.Challenge.rw_pg0136_01.row.prog w) (ktrTop dp un gd cn cs L a ccd cl outer) (call (.ref 61) [.int o to, .int c tc]) Q E s
theorem RowsC.use {n : Nat} (h : RowsC n) : RowsC n := h
section
local macro_rules | `(tactic| walk_at "execs cons") => `(tactic| (k_here; (fail_if_success (fail_if_success k_gentoks)); refine genT (by omega) ?_; intro tk0 htk0))
local macro_rules | `(tactic| walk_at "execs nil") => `(tactic| (k_here; (fail_if_success (fail_if_success k_gentoks)); refine genT (by omega) ?_; intro tk0 htk0))
local macro_rules | `(tactic| walk_at "call ref") => `(tactic| ((with_reducible show wpAny _ _ (call (Value.ref 61) _) _ _ _); k_dflt (refine Mine.pos (by first | assumption | (dsimp only; omega)) ?_; refine' RowsC.use ?ihh ?b1 ?b2 ?b3 ?b4 ?b5 ?s3 ?s4 ?s5 ?s6 ?s7 ?s8 ?s9 ?s10 ?_; (case ihh => assumption); (case b1 => omega); (case b2 => omega); (case b3 => omega); (case b4 => omega); (case b5 => first | assumption | (dsimp only; omega)); (case s3 => k_asm); (case s4 => k_asm); (case s5 => k_asm); (case s6 => k_asm); (case s7 => k_asm); (case s8 => exact rfl); (case s9 => ktr_room); (case s10 => ktr_units)); intro D9 vs9 k9 h9 tk9 I9 F9 N9 l9 htk9; (try dsimp only at htk9); (try dsimp only)))
local macro_rules | `(tactic| walk_at "eval ListComp") => `(tactic| (refine halt ?_))
local macro_rules | `(tactic| walk_at "CEnd") => `(tactic| (refine halt ?_))
theorem rows_step (n : Nat) (ih : RowsC n) : RowsC (n + 1) := by
  w_top off
  intro w mg mb mean o c to tc news dp un gd cn cs a ccd cl outer A₀ base h₀ L m s Q E ho hc hn h6 h0 hB F hX N hT hcs hdp hun hret
  revert hX; k_fill; intro hX
  refine wpAny_call ?_
  k_dflt cell_enter
  clear F
  rename Fr _ _ _ _ => F
  refine forget F [(Str.ofString "opening", .int o to), (Str.ofString "closing", .int c tc)] (fa2 rfl rfl) ?_
  clear F
  intro u F
  dsimp only [kstB] at F
  k_steps
  · rename News h₀ L _ _ => N
    rename Fr h₀ L _ _ => F
    refine hret _ [.str _ _] _ _ _ ?_ F N (by assumption)
    unfold rowsI
    rw [if_pos (Or.inl (by assumption))]
    exact .cons _ _ .nil
  · rename News h₀ L _ _ => N
    rename Fr h₀ L _ _ => F
    refine hret _ [.str _ _] _ _ _ ?_ F N (by assumption)
    unfold rowsI
    rw [if_pos (Or.inr (by assumption))]
    exact .cons _ _ .nil
  have l1 := rows_len n (o - 1) c (by omega) (by omega) (by omega)
  have l2 := rows_len n o (c - 1) (by omega) (by omega) (by omega)
  have hpow : 2 ^ n ≤ 64 := Nat.le_trans (Nat.pow_le_pow_right (by omega) (show n ≤ 6 by omega)) (by decide)
  refine go ?_
  refine comp_at (cl := []) rfl rfl (by decide) ?_
  k_steps
  rename Fr _ _ _ _ => F
  rename News _ _ _ _ => N
  rename StrsAre _ _ => I9
  have hlen9 := I9.length
  refine comp_list (fun i ys => StrsAre ys (((rowsI (n + 1) (o - 1) c).take i).map fun r => Str.ofString "(" ++ r)) (by assumption) rfl (by decide) rfl rfl (.head _) (by unfold sizeLine; omega) F N .nil ?_ ?_
  · intro i v I oI C oC D m₂ ys h tk E' hv htk hPi hC hm₂ F N off ne
    obtain ⟨y, t, rfl, hy⟩ := StrsAre.item I9 i v hv
    refine wpAny_tests_nil ?_
    intro htk'
    rw [if_pos rfl]
    have hyl : y.length ≤ 6 := by
      have := l1.2 y (List.mem_of_getElem? hy)
      omega
    k_steps
    refine go ?_
    rename Fr _ _ _ _ => F
    rename News _ _ _ _ => N
    refine c_end F N (fun p hp => hp) ?_
    show StrsAre _ _
    rw [List.take_add_one, hy, List.map_append]
    exact hPi.append' (.cons _ _ .nil)
  clear F N I9
  intro D1 ys1 h1 tk1 htk1 hP1 F N lt1
  rw [hlen9, List.take_length] at hP1
  clear hlen9
  k_steps
  refine go ?_
  refine comp_at (cl := []) rfl rfl (by decide) ?_
  k_steps
  rename Fr _ _ _ _ => F
  rename News _ _ _ _ => N
  rename StrsAre _ _ => I9
  have hlen9 := I9.length
  refine comp_list (fun i ys => StrsAre ys (((rowsI (n + 1) o (c - 1)).take i).map fun r => Str.ofString ")" ++ r)) (by assumption) rfl (by decide) rfl rfl (.head _) (by unfold sizeLine; omega) F N .nil ?_ ?_
  · intro i v I oI C oC D m₂ ys h tk E' hv htk hPi hC hm₂ F N off ne
    obtain ⟨y, t, rfl, hy⟩ := StrsAre.item I9 i v hv
    refine wpAny_tests_nil ?_
    intro htk'
    rw [if_pos rfl]
    have hyl : y.length ≤ 6 := by
      have := l2.2 y (List.mem_of_getElem? hy)
      omega
    k_steps
    refine go ?_
    rename Fr _ _ _ _ => F
    rename News _ _ _ _ => N
    refine c_end F N (fun p hp => hp) ?_
    show StrsAre _ _
    rw [List.take_add_one, hy, List.map_append]
    exact hPi.append' (.cons _ _ .nil)
  clear F N I9
  intro D2 ys2 h2 tk2 htk2 hP2 F N lt2
  rw [hlen9, List.take_length] at hP2
  have hy1 := hP1.length
  have hy2 := hP2.length
  rw [List.length_map] at hy1 hy2
  have hlast := fun p (hp : p ∈ news) => Heap.lt_size (N p (.tail _ (.tail _ (.tail _ (.tail _ hp))))).1
  refine add_lists F N ⟨_, (N _ (.tail _ (.tail _ (.head _)))).1, rfl, _, rfl⟩ ⟨_, (N _ (.head _)).1, rfl, _, rfl⟩ ?_ (by unfold sizeLine; omega)
  clear F N
  intro h3 F N
  k_steps
  rename News h₀ L _ _ => N
  rename Fr h₀ L _ _ => F
  refine hret _ (ys1 ++ ys2) 0 _ _ ?_ F (fun p hp => N p ?_) hlast
  · unfold rowsI
    rw [if_neg (by omega)]
    exact hP1.append' hP2
  · rcases List.mem_cons.mp hp with rfl | hp
    · exact .head _
    · exact .tail _ (.tail _ (.tail _ (.tail _ (.tail _ hp))))
theorem rows_zero : RowsC 0 := by
  w_top off
  intro w mg mb mean o c to tc news dp un gd cn cs a ccd cl outer A₀ base h₀ L m s Q E ho hc hn h6 h0 hB F hX N hT hcs hdp hun hret
  obtain rfl : o = 0 := by omega
  obtain rfl : c = 0 := by omega
  revert hX; k_fill; intro hX
  refine wpAny_call ?_
  k_dflt cell_enter
  clear F
  rename Fr _ _ _ _ => F
  refine forget F [(Str.ofString "opening", .int 0 to), (Str.ofString "closing", .int 0 tc)] (fa2 rfl rfl) ?_
  clear F
  intro u F
  dsimp only [kstB] at F
  k_steps
  rename News h₀ L _ _ => N
  rename Fr h₀ L _ _ => F
  refine hret _ [.str _ _] _ _ _ ?_ F N (by assumption)
  exact .cons _ _ .nil
theorem rows_all : ∀ n, RowsC n
  | 0 => rows_zero
  | n + 1 => rows_step n (rows_all n)
end
end Mine

end
section
open PySem PySem.W PyProof.Rows PySem.Calls PyProof.V PySem.Spec
set_option maxRecDepth 100000
set_option maxHeartbeats 0
set_option linter.unusedVariables false
namespace Mine
open LCg
section
variable {prog : Program} {w : World} {A : Around} {E : Value → Shared → Prop} {s : Shared} {h₀ : Heap} {L : Addr} {m : Str → Option Value} {env : Env}
@[irreducible] def PSrc (prog : Program) (w : World) (A : Around) (env : Env) (elt iter : PySem.Expr) (x y : Str) (px py pt : Pos) (k : Nat) (scope : Scope) (cl : List (Str × Addr)) (pos : Pos) (RR : Value → Addr → Result → Shared → Prop) (E : Value → Shared → Prop) (xv : Value) (s₁ : Shared) : Prop :=
  wpAny (model prog w) A (pyIter xv) (fun it s₂ => wpAny (model prog w) A (newList []) (fun acc s₃ => wpAny (model prog w) A (newFunctionEnv scope env.globals cl [] env.qual none .none (some env)) (fun cenv s₄ =>
      codeAny (model prog w) A (.compStart (.ListComp elt [⟨.Tuple [.Name x px, .Name y py] k pt, iter, [], 0⟩] scope pos) 0 it acc { cenv with scope := relabel scope env }) (RR acc cenv.locals) s₄) E s₃) E s₂) E s₁
theorem pair_at {elt iter : PySem.Expr} {x y : Str} {px py pt : Pos} {k : Nat} {scope : Scope} {cl : List (Str × Addr)} {pos : Pos} {Q : Value → Shared → Prop}
    (hclos : closureFor scope env = pure cl) (hkind : scope.kind = .function) (hnames : ∀ y ∈ scope.names, y.2 = .local → scope.names.lookup y.1 = some .local)
    (h : wpAny (model prog w) A (eval iter env) (PSrc prog w A env elt iter x y px py pt k scope cl pos (compPost (model prog w) A E none Q) E) E s)
    (hs : ∀ x, foldedSetIterable iter env x = pure x := by intro _; rfl) :
    wpAny (model prog w) A (eval (.ListComp elt [⟨.Tuple [.Name x px, .Name y py] k pt, iter, [], 0⟩] scope pos) env) Q E s := by
  rw [eval_ListComp]
  refine wpAny_comprehension_free (use := none) rfl hs hclos hkind hnames (wpAny_mono h (fun xv s₁ h₁ => ?_) fun _ _ e => e)
  unfold PSrc at h₁
  exact h₁
theorem comp_enum {elt iter : PySem.Expr} {x y : Str} {px py pt : Pos} {k : Nat} {scope : Scope} {cl : List (Str × Addr)} {pos : Pos} {Q : Value → Shared → Prop} {z : Str} {tz : Tok} {news : List (Addr × Obj)} (P : Nat → List Value → Prop)
    (h0 : 0 < s.toks) (hh : A.handled = none) (hcell : ∀ y ∈ scope.names, y.2 ≠ .cell) (hkind : scope.kind = .function) (hx : scope.names.lookup x = some .local) (hy : scope.names.lookup y = some .local)
    (hne : x ≠ y) (hasc : z.cps.all (· < 128) = true) (hsz : z.cps.size ≤ sizeLine)
    (F : Fr h₀ L s.heap m) (N : News h₀ L s.heap news) (hP : P 0 [])
    (turn : ∀ i cc t0 t1 I oI C oC D I2 o2 m₂ ys h tk (E' : Value → Shared → Prop), z.cps[i]? = some cc → 0 < tk → P i ys → NsObj oC m₂ → m₂ x = some (.int (i : Int) t0) → m₂ y = some (.str ⟨#[cc]⟩ t1) → Fr h₀ L h m → News h₀ L h ((I, oI) :: (C, oC) :: (D, lst ys) :: (I2, o2) :: news) → Off3 I C D ((I2, o2) :: news) → ((@Ne Nat I C) ∧ (@Ne Nat I D) ∧ (@Ne Nat C D)) →
      wpAny (model prog w) A (eval elt (compEnvC scope cl C env)) (CEnd h₀ L m { s with heap := h, toks := tk } ((I, oI) :: (C, oC) :: (D, lst ys) :: (I2, o2) :: news) (fun y => P (i + 1) (ys ++ [y]))) E' { s with heap := h, toks := tk })
    (done : ∀ D ys h tk, 0 < tk → P z.cps.size ys → Fr h₀ L h m → News h₀ L h ((D, lst ys) :: news) → (∀ p ∈ news, p.1 < D) → Q (.ref D) { s with heap := h, toks := tk }) :
    wpAny (model prog w) A (call (.type "enumerate") [.str z tz]) (PSrc prog w A env elt iter x y px py pt k scope cl pos (compPost (model prog w) A E none Q) E) E s := by
  have hLlt : L < s.heap.objs.size := F.ns.lt
  have hnlt : ∀ p ∈ news, p.1 < s.heap.objs.size := fun p hp => Heap.lt_size (N p hp).1
  have hab : h₀.objs.size ≤ s.heap.objs.size := Nat.le_trans F.above (Nat.le_of_lt hLlt)
  have new₀ : ∀ b, s.heap.objs.size ≤ b → h₀.get? b = none := fun b hb => Heap.get?_none_of_le (Nat.le_trans hab hb)
  refine call_enumerate_str fun hE he hit hsz0 hkp => ?_
  have hty : strIterType z = "str_ascii_iterator" := by unfold strIterType; rw [hasc]; rfl
  rw [hty] at hit
  unfold PSrc
  refine wpAny_pyIter_enum he ?_
  refine wpAny_newObj_type (wpAny_newFunctionEnv hcell (by intro y hy; simp at hy) (fun h₁ hns₁ hsb₁ => ?_) hkind)
  dsimp only at hns₁ hsb₁ ⊢
  generalize hH2 : hE.push { cls := .type "list", data := .seq ([] : List Value).toArray } = H2 at hns₁ hsb₁ ⊢
  have hC : H2.objs.size = hE.objs.size + 1 := by rw [← hH2, Heap.size_push]
  have hD : hE.objs.size = s.heap.objs.size + 2 := hsz0
  generalize eI2 : s.heap.objs.size = I2 at *
  have hI : I2 < I2 + 1 := Nat.lt_succ_self _
  generalize eI : I2 + 1 = I at *
  have hID : I < hE.objs.size := by rw [hD, ← eI]; exact Nat.lt_succ_self _
  generalize eD : hE.objs.size = D at *
  generalize eC : H2.objs.size = C at *
  have hDC : D < C := by rw [hC]; exact Nat.lt_succ_self _
  have hIC : I < C := Nat.lt_trans hID hDC
  have h2C : I2 < C := Nat.lt_trans hI hIC
  have h2D : I2 < D := Nat.lt_trans hI hID
  have upE : ∀ b o, hE.get? b = some o → h₁.get? b = some o := fun b o q => by
    have : b ≠ C := Nat.ne_of_lt (Nat.lt_trans (eD ▸ Heap.lt_size q) hDC)
    exact hsb₁.extBut b o this (Heap.get?_push_of_some _ (hH2 ▸ Heap.get?_push_of_some _ q))
  have up : ∀ b o, s.heap.get? b = some o → h₁.get? b = some o := fun b o q => upE b o (hkp b o q)
  have hDo : h₁.get? D = some (lst []) := hsb₁.extBut _ _ (Nat.ne_of_lt hDC) (Heap.get?_push_of_some _ (by rw [← hH2, ← eD]; exact Heap.get?_push_size _ rfl))
  have hIL : L ≠ I := Nat.ne_of_lt (Nat.lt_trans hLlt hI)
  have h2L : L ≠ I2 := Nat.ne_of_lt hLlt
  have hDL : D ≠ L := Nat.ne_of_gt (Nat.lt_trans hLlt h2D)
  have hCL : C ≠ L := Nat.ne_of_gt (Nat.lt_trans hLlt h2C)
  have h2₀ : h₀.get? I2 = none := new₀ _ (Nat.le_refl _)
  have hI₀ : h₀.get? I = none := new₀ _ (Nat.le_of_lt hI)
  have hD₀ : h₀.get? D = none := new₀ _ (Nat.le_of_lt h2D)
  have hC₀ : h₀.get? C = none := new₀ _ (Nat.le_of_lt h2C)
  have offn : ∀ p ∈ news, p.1 ≠ I ∧ p.1 ≠ C ∧ p.1 ≠ D := fun p hp => ⟨Nat.ne_of_lt (Nat.lt_trans (hnlt p hp) hI), Nat.ne_of_lt (Nat.lt_trans (hnlt p hp) h2C), Nat.ne_of_lt (Nat.lt_trans (hnlt p hp) h2D)⟩
  have W := WalksT.enumerateD (Draws.strAscii (prog := prog) (w := w) (A := A.in1) hh I2 z tz) I (Nat.ne_of_gt hI) (by intro hm; exact Nat.ne_of_gt hI (List.mem_singleton.mp hm)) (List.mem_singleton.mpr rfl)
  have nwr : ∀ b, b ≠ I → b ≠ I2 → b ∉ [I, I2] := fun b h1 h2 hm => by
    rcases List.mem_cons.mp hm with q | hm
    · exact h1 q
    · exact h2 (List.mem_singleton.mp hm)
  have loop : ∀ tk, 0 < tk → codeAny (model prog w) A (.compLoop (.ListComp elt [⟨.Tuple [.Name x px, .Name y py] k pt, iter, [], 0⟩] scope pos) 0 (.ref I) (.ref D) (compEnvC scope cl C env)) (compPost (model prog w) A E none Q (.ref D) C) { s with heap := h₁, toks := tk } := by
    intro tk htk
    refine kcp_loop
      (fun k s' => ∃ h' tk i ys m', s' = { s with heap := h', toks := tk } ∧ 0 < tk ∧ i ≤ z.cps.size ∧ k = z.cps.size + 1 - i ∧ ys.length ≤ i ∧ ((∃ old, IsEnum h' I I2 i old) ∧ h'.IsStrIter I2 "str_ascii_iterator" z tz i) ∧ Fr h₀ L h' m ∧ h'.Ns C m' ∧ News h₀ L h' ((D, lst ys) :: news) ∧ P i ys) ?_ (z.cps.size + 1)
      ⟨h₁, tk, 0, [], _, rfl, htk, Nat.zero_le _, rfl, Nat.le_refl _, W.frame 0 hE h₁ ⟨⟨_, he⟩, hit⟩ (fun b _ o q => upE b o q), F.keeps up, hns₁, fun p hp => ?_, hP⟩
    · rintro k' s' ⟨h', tk', i, ys, m', rfl, htk', hi, rfl, hyl, hst, F', hn', N', hPi⟩
      refine Mine.pos (s := { s with heap := h', toks := tk' }) htk' ?_
      have keep : ∀ h₂ : Heap, (∀ b o, b ∉ [I, I2] → h'.get? b = some o → h₂.get? b = some o) → Fr h₀ L h₂ m ∧ News h₀ L h₂ ((D, lst ys) :: news) ∧ h₂.Ns C m' := fun h₂ hk₂ =>
        ⟨⟨F'.ns.at' fun o q => hk₂ _ o (nwr _ hIL h2L) q, fun b o q => hk₂ b o (nwr _ (fun r => by rw [r, hI₀] at q; cases q) (fun r => by rw [r, h2₀] at q; cases q)) (F'.keep b o q), F'.above⟩,
         fun p hp => ⟨hk₂ _ _ (by
            rcases List.mem_cons.mp hp with rfl | hp
            · exact nwr _ (Nat.ne_of_gt hID) (Nat.ne_of_gt h2D)
            · exact nwr _ (offn p hp).1 (Nat.ne_of_lt (hnlt p hp))) (N' p hp).1, (N' p hp).2⟩,
         hn'.at' fun o q => hk₂ _ o (nwr _ (Nat.ne_of_gt hIC) (Nat.ne_of_gt h2C)) q⟩
      by_cases hlt' : i < z.cps.size
      · refine W.item i _ _ _ hlt' hst fun T vals h₂ tk₂ hPt _ hT hMid hk₂ htk₂ => ?_
        obtain ⟨t0, v, ⟨cc, t1, hc, rfl⟩, rfl⟩ := hPt
        refine W.go _ k pt i T _ _ _ hMid fun h₃ hst₃ hk₃ => ?_
        have hT₃ : h₃.IsTuple T #[.int (i : Int) t0, .str ⟨#[cc]⟩ t1] := hT.at fun o q => hk₃ T o (W.apart i T h₂ hMid) q
        obtain ⟨F₃, N₃, hn₃⟩ := keep h₃ fun b o hb q => hk₃ b o hb (hk₂ b o hb q)
        refine Mine.pos (s := { s with heap := h₃, toks := tk₂ }) htk₂ ?_
        refine kcp_assign hh hT₃ (lookup_relabel_local hx) (lookup_relabel_local hy) (by simp [compEnvC, relabel, hkind]) hn₃ fun h₄ tk₄ hn₄ hk₄ htk₄ => ?_
        replace hk₄ : ∀ c o, c ≠ C → h₃.get? c = some o → h₄.get? c = some o := hk₄
        have F₄ : Fr h₀ L h₄ m := ⟨F₃.ns.at' fun o q => hk₄ _ o (Ne.symm hCL) q, fun b o q => hk₄ b o (fun r => by rw [r, hC₀] at q; cases q) (F₃.keep b o q), F₃.above⟩
        obtain ⟨oC, heC, hoC⟩ := ns_obj hn₄
        obtain ⟨⟨old, heI⟩, o2, he2, hr2⟩ := hst₃
        have heI₄ := hk₄ _ _ (Nat.ne_of_lt hIC) heI
        have he2₄ := hk₄ _ _ (Nat.ne_of_lt h2C) he2
        generalize hoI : (({ cls := _, data := _ } : Obj)) = oI at heI₄
        have N₄ : News h₀ L h₄ ((I, oI) :: (C, oC) :: (D, lst ys) :: (I2, o2) :: news) := fun p hp => by
          rcases List.mem_cons.mp hp with rfl | hp
          · exact ⟨heI₄, Ne.symm hIL, hI₀⟩
          · rcases List.mem_cons.mp hp with rfl | hp
            · exact ⟨heC, hCL, hC₀⟩
            · rcases List.mem_cons.mp hp with rfl | hp
              · exact ⟨hk₄ _ _ (Nat.ne_of_lt hDC) (N₃ _ (.head _)).1, (N₃ _ (.head _)).2⟩
              · rcases List.mem_cons.mp hp with rfl | hp
                · exact ⟨he2₄, Ne.symm h2L, h2₀⟩
                · exact ⟨hk₄ _ _ (offn p hp).2.1 (N₃ p (.tail _ hp)).1, (N₃ p (.tail _ hp)).2⟩
        have off : Off3 I C D ((I2, o2) :: news) := Off3.of fun p hp => by
          rcases List.mem_cons.mp hp with rfl | hp
          · exact ⟨Nat.ne_of_lt hI, Nat.ne_of_lt h2C, Nat.ne_of_lt h2D⟩
          · exact offn p hp
        have hxy : ∀ (a b : Value), (fun q => if q = y then some b else if q = x then some a else m' q) y = some b := fun a b => if_pos rfl
        refine Mine.pos (s := { s with heap := h₄, toks := tk₄ }) htk₄ (wpAny_mono (turn i cc t0 t1 I oI C oC D I2 o2 _ ys h₄ tk₄ _ hc htk₄ hPi hoC ?_ (if_pos rfl) F₄ N₄ off ⟨Nat.ne_of_lt hIC, Nat.ne_of_lt hID, Nat.ne_of_gt hDC⟩) (fun yv s₅ t₅ htk₅ => ?_) fun _ _ e => e)
        · show (if x = y then _ else _) = _
          rw [if_neg hne, if_pos rfl]
        obtain ⟨h₅, tk₅, all, rfl, F₅, N₅, sub, hP₅⟩ := c_out t₅
        have zI := (N₅ _ (sub _ (.head _))).1
        have zC := (N₅ _ (sub _ (.tail _ (.head _)))).1
        have zD := (N₅ _ (sub _ (.tail _ (.tail _ (.head _))))).1
        have z2 := (N₅ _ (sub _ (.tail _ (.tail _ (.tail _ (.head _)))))).1
        refine append_at (hsz := by show ys.toArray.size ≤ sizeLine; rw [List.size_toArray]; omega) zD fun h₆ hs₆ hD₆ => ?_
        refine ⟨z.cps.size + 1 - (i + 1), by omega, h₆, tk₅, i + 1, ys ++ [yv], _, rfl, htk₅, hlt', rfl, by rw [List.length_append, List.length_singleton]; omega, ⟨⟨old, ?_⟩, o2, hs₆.extBut _ _ (Nat.ne_of_lt h2D) z2, hr2⟩, F₅.change hs₆ hDL hD₀, (hoC.ns zC).sameBut hs₆ (Nat.ne_of_gt hDC), fun p hp => ?_, hP₅⟩
        · subst hoI
          exact hs₆.extBut _ _ (Nat.ne_of_lt hID) zI
        · rcases List.mem_cons.mp hp with rfl | hp
          · exact ⟨hD₆.trans (congrArg some (lst_snoc ys yv)), hDL, hD₀⟩
          · have q := N₅ p (sub p (.tail _ (.tail _ (.tail _ (.tail _ hp)))))
            exact ⟨hs₆.extBut _ _ (offn p hp).2.2 q.1, q.2⟩
      · have hin : i = z.cps.size := by omega
        subst hin
        refine W.done _ _ _ hst fun h₂ tk₂ hk₂ htk₂ => ?_
        obtain ⟨F₂, N₂, hn₂⟩ := keep h₂ hk₂
        refine ⟨m', hn₂, fun h'' hs'' => done D ys h'' tk₂ htk₂ hPi (F₂.change hs'' hCL hC₀) (fun p hp => ⟨hs''.extBut _ _ ?_ (N₂ p hp).1, (N₂ p hp).2⟩) fun p hp => Nat.lt_trans (hnlt p hp) h2D⟩
        rcases List.mem_cons.mp hp with rfl | hp
        · exact Nat.ne_of_lt hDC
        · exact (offn p hp).2.1
    · rcases List.mem_cons.mp hp with rfl | hp
      · exact ⟨hDo, hDL, hD₀⟩
      · exact ⟨up _ _ (N p hp).1, (N p hp).2⟩
  exact codeAny_compStart_list (loop _ h0) (W.self 0 _ _ _ (W.frame 0 hE h₁ ⟨⟨_, he⟩, hit⟩ (fun b _ o q => upE b o q)) (loop _ h0))
end
end Mine

end
section
open PySem PySem.W PyProof.Rows PySem.Calls PyProof.V PySem.Spec
set_option maxRecDepth 100000
set_option maxHeartbeats 0
namespace Mine
set_option linter.unusedVariables false
theorem news_ne {news : List (Addr × Obj)} {L d : Nat} (h : ∀ p ∈ news, p.1 < L) (hd : L ≤ d) : ∀ p ∈ news, p.1 ≠ d := fun p hp => Nat.ne_of_lt (Nat.lt_of_lt_of_le (h p hp) hd)
def keepP (KP : List Str) (y : Str) : Str := if KP.any (· == y) then y else Str.ofString "('', '')"
theorem keep_yes {KP : List Str} {y : Str} (h : (KP.any fun x => x == y) = true) : keepP KP y = y := if_pos h
theorem keep_no {KP : List Str} {y : Str} (h : (KP.any fun x => x == y) = false) : keepP KP y = Str.ofString "('', '')" := if_neg (by rw [h]; exact Bool.false_ne_true)
theorem skip1 {α : Type} {a b p : α} {l : List α} (h : p ∈ a :: l) : p ∈ a :: b :: l := by
  rcases List.mem_cons.mp h with rfl | h
  · exact .head _
  · exact .tail _ (.tail _ h)
theorem rows_use {n : Nat} : RowsC n := rows_all n
def turnP (x : Str) : List Int :=
  ((aloneP x).filter (fun p => Txt.item x p == Str.ofString ")")).take (((((aloneP x).filter (fun p => Txt.item x p == Str.ofString ")")).length : Int) + 1).fdiv 2).toNat ++ ((aloneP x).filter (fun p => Txt.item x p == Str.ofString "(")).drop ((((aloneP x).filter (fun p => Txt.item x p == Str.ofString "(")).length : Int).fdiv 2).toNat
def mendC (x : Str) (T : List Int) (i : Nat) : Str := if ((Str.mk #[x.cps.getD i 0] == Str.ofString "(") != T.any (· == (i : Int))) = true then Str.ofString "(" else Str.ofString ")"
def mendP (x : Str) (T : List Int) : Str := Txt.join (Str.ofString "") ((List.range x.cps.size).map (mendC x T))
theorem mend_yes {x : Str} {T : List Int} {i cc : Nat} (hcc : x.cps[i]? = some cc) (h : ((Str.mk #[cc] == Str.ofString "(") != T.any fun x => x == (i : Int)) = true) : (List.range (i + 1)).map (mendC x T) = (List.range i).map (mendC x T) ++ [Str.ofString "("] := by
  have e : x.cps.getD i 0 = cc := by rw [Array.getD_eq_getD_getElem?, hcc]; rfl
  rw [List.range_succ, List.map_append, List.map_singleton, mendC, e, if_pos h]
theorem mend_no {x : Str} {T : List Int} {i cc : Nat} (hcc : x.cps[i]? = some cc) (h : ((Str.mk #[cc] == Str.ofString "(") != T.any fun x => x == (i : Int)) = false) : (List.range (i + 1)).map (mendC x T) = (List.range i).map (mendC x T) ++ [Str.ofString ")"] := by
  have e : x.cps.getD i 0 = cc := by rw [Array.getD_eq_getD_getElem?, hcc]; rfl
  rw [List.range_succ, List.map_append, List.map_singleton, mendC, e, if_neg (by rw [h]; exact Bool.false_ne_true)]
theorem mend_sum (x : Str) (T : List Int) : ∀ n, (((List.range n).map (mendC x T)).map (fun y => y.length)).sum = n
  | 0 => rfl
  | n + 1 => by
    have : (mendC x T n).length = 1 := by unfold mendC; split <;> rfl
    rw [List.range_succ, List.map_append, List.map_append, List.sum_append, mend_sum x T n]
    simp [this]
def rowsOf (x : Str) : List Str := rowsI (x.length + 1) ((x.length : Int).fdiv 2) ((x.length : Int).fdiv 2)
def keptOf (x : Str) : List Str := (rowsOf x).filter (closesGo 3)
def dueP (x : Str) (b : Bool) : Int := ((turnP x).length : Int) * (if b = true then 1 else 2)
structure NearOk (x : Str) (b : Bool) : Prop where
  len : x.length = 4 ∨ x.length = 6
  px : Plain x
  good : ∀ y ∈ rowsOf x, goodGo 3 y = true
  few : (rowsOf x).length ≤ 100
  plain : ∀ y ∈ rowsOf x, Plain y
  lay1 : ∀ y ∈ (rowsOf x).map preP, PyData.canLay0 (.str y) = true
  lay2 : ∀ y ∈ (rowsOf x).map (keepP (keptOf x)), PyData.canLay0 (.str y) = true
  same : (!decide ((rowsOf x).map preP = (rowsOf x).map (keepP (keptOf x)))) = false
  rep : ∀ y ∈ keptOf x, (Txt.replace y (Str.ofString "(") (Str.ofString "a")).length ≤ 40
  xrep : (Txt.replace x (Str.ofString "(") (Str.ofString "a")).length ≤ 40
  xlen : (dressP x b).length ≤ 40
  alike : ∀ y ∈ keptOf x, (dressP y b).length = (dressP x b).length
  mend : ((keptOf x).any fun y => y == mendP x (turnP x)) = true
  most : (turnP x).length ≤ 6
  least : ∀ y ∈ keptOf x, dueP x b ≤ levP (dressP x b) (dressP y b) (2 * (x.length : Int))
  hit : ∃ y ∈ keptOf x, levP (dressP x b) (dressP y b) (2 * (x.length : Int)) = dueP x b
  chk : checkP x = (dueP x b == 0)
  last : levP (dressP (mendP x (turnP x)) b) (dressP x b) (dueP x b) = dueP x b
@[irreducible] def VEnd (n : Int) (s₀ : Shared) (v : Value) (s' : Shared) : Prop := ∃ t k, v = .int n t ∧ s' = { s₀ with toks := k }
theorem v_end {n : Int} {s₀ : Shared} {t : Tok} {k : Nat} : VEnd n s₀ (.int n t) { s₀ with toks := k } := by unfold VEnd; exact ⟨t, k, rfl, rfl⟩
theorem v_cut {M : Model} {A : Around} {t : Sem Value} {Q : Value → Shared → Prop} {E : Value → Shared → Prop} {s : Shared} (n : Int) (h : wpAny M A t (VEnd n s) E s) (hq : ∀ t k, Q (.int n t) { s with toks := k }) : wpAny M A t Q E s :=
  wpAny_mono h (fun v s' q => by unfold VEnd at q; obtain ⟨t, k, rfl, rfl⟩ := q; exact hq t k) fun _ _ e => e
end Mine

end
section
open PySem PySem.W PyProof.Rows PySem.Calls PyProof.V PySem.Spec
set_option maxRecDepth 100000
set_option maxHeartbeats 0
namespace Mine
set_option linter.unusedVariables false
section
local macro_rules | `(tactic| k_all) => `(tactic| exact news_ne (by assumption) (by omega))
local macro_rules | `(tactic| walk_at "execs cons") => `(tactic| (k_here; (fail_if_success (fail_if_success k_gentoks)); refine genT (by first | omega | (dsimp only; omega)) ?_; intro tk0 htk0))
local macro_rules | `(tactic| walk_at "execs nil") => `(tactic| (k_here; (fail_if_success (fail_if_success k_gentoks)); refine genT (by first | omega | (dsimp only; omega)) ?_; intro tk0 htk0))
local macro_rules | `(tactic| walk_at "eval ListComp") => `(tactic| (refine halt ?_))
local macro_rules | `(tactic| walk_at "compareOp NotEq ref ref") => `(tactic| (refine halt ?_))
local macro_rules | `(tactic| walk_at "exec Assign cons ListComp") => `(tactic| (refine halt ?_))
local macro_rules | `(tactic| walk_at "subscriptTail Name Name str int") => `(tactic| (refine item_str (fitsSsize_of (N := 9223372036854775808) (by omega) (by omega) (Int.le_refl _)) (by omega) (by omega) ?_; intro _))
local macro_rules | `(tactic| walk_at "call type:enumerate") => `(tactic| (refine halt ?_))
local macro_rules | `(tactic| walk_at "call builtin:str.join") => `(tactic| (refine halt ?_))
local macro_rules | `(tactic| walk_at "call builtin:min") => `(tactic| (refine halt ?_))
local macro_rules | `(tactic| walk_at "eval IfExp") => `(tactic| ((with_reducible show wpAny _ _ (eval (PySem.Expr.IfExp (PySem.Expr.Name _ _) _ _ _) _) _ _ _); (fail_if_success (with_reducible show wpAny _ _ _ (VEnd _ _) _ _)); refine halt ?_))
local macro_rules | `(tactic| walk_at "VEnd") => `(tactic| (refine halt ?_))
local macro_rules | `(tactic| walk_at "CEnd") => `(tactic| (refine halt ?_))
local macro_rules | `(tactic| walk_at "call ref") => `(tactic| ((with_reducible show wpAny _ _ (call (Value.ref 61) _) _ _ _); k_dflt (refine Mine.pos (by first | assumption | (dsimp only; omega)) ?_; refine' rows_use ?b1 ?b2 ?b3 ?b4 ?b5 ?s3 ?s4 ?s5 ?s6 ?s7 ?s8 ?s9 ?s10 ?_; (case b1 => assumption); (case b2 => assumption); (case b3 => assumption); (case b4 => omega); (case b5 => first | assumption | (dsimp only; omega)); (case s3 => k_asm); (case s4 => k_asm); (case s5 => k_asm); (case s6 => k_asm); (case s7 => k_asm); (case s8 => exact rfl); (case s9 => ktr_room); (case s10 => ktr_units)); intro D9 vs9 k9 h9 tk9 I9 F9 N9 l9 htk9; (try dsimp only at htk9); (try k_lt l9); (try dsimp only)))
local macro_rules | `(tactic| walk_at "call ref") => `(tactic| ((with_reducible show wpAny _ _ (call (Value.ref 56) _) _ _ _); k_dflt (refine Mine.pos (by first | assumption | (dsimp only; omega)) ?_; refine' pre_call ?b1 ?b2 ?b3 ?b4 ?b5 ?s3 ?s4 ?s5 ?s6 ?s7 ?s8 ?s9 ?s10 ?_; (case s3 => k_asm); (case s4 => k_asm); (case s5 => k_asm); (case s6 => k_asm); (case s7 => k_asm); (case s8 => exact rfl); (case s9 => ktr_room); (case s10 => ktr_units); (case b1 => k_mem); (case b2 => assumption); (case b3 => assumption); (case b4 => assumption); (case b5 => first | assumption | (dsimp only; omega)); skip); intro D9 vs9 k9 h9 tk9 G9 htk8 I9 F9 N9 htk9; (try dsimp only at htk9); (try k_lt l9); (try dsimp only)))
local macro_rules | `(tactic| walk_at "call ref") => `(tactic| ((with_reducible show wpAny _ _ (call (Value.ref 75) _) _ _ _); k_dflt (refine Mine.pos (by first | assumption | (dsimp only; omega)) ?_; refine' alone_call ?b1 ?b2 ?b5 ?s3 ?s4 ?s5 ?s6 ?s7 ?s8 ?s9 ?s10 ?_; (case b1 => omega); (case b2 => assumption); (case b5 => first | assumption | (dsimp only; omega)); (case s3 => k_asm); (case s4 => k_asm); (case s5 => k_asm); (case s6 => k_asm); (case s7 => k_asm); (case s8 => exact rfl); (case s9 => ktr_room); (case s10 => ktr_units)); intro D9 vs9 k9 h9 tk9 htk8 I9 F9 N9 htk9; (try dsimp only at htk9); (try k_lt l9); (try dsimp only)))
local macro_rules | `(tactic| walk_at "call ref") => `(tactic| ((with_reducible show wpAny _ _ (call (Value.ref 68) _) _ _ _); k_dflt (refine Mine.pos (by first | assumption | (dsimp only; omega)) ?_; refine' closes_call ?b1 ?b5 ?s3 ?s4 ?s5 ?s6 ?s7 ?s8 ?s9 ?s10 ?_; (case b1 => assumption); (case b5 => first | assumption | (dsimp only; omega)); (case s3 => k_asm); (case s4 => k_asm); (case s5 => k_asm); (case s6 => k_asm); (case s7 => k_asm); (case s8 => exact rfl); (case s9 => ktr_room); (case s10 => ktr_units)); intro h9 tk9 F9 N9 htk9; (try dsimp only at htk9); (try k_lt l9); (try dsimp only)))
local macro_rules | `(tactic| walk_at "call ref") => `(tactic| ((with_reducible show wpAny _ _ (call (Value.ref 28) _) _ _ _); k_dflt (refine Mine.pos (by first | assumption | (dsimp only; omega)) ?_; refine' lev_call ?b1 ?b2 ?b3 ?s3 ?s4 ?s5 ?s6 ?s7 ?s8 ?s9 ?s10 ?_; (case b1 => omega); (case b2 => omega); (case b3 => omega); (case s3 => k_asm); (case s4 => k_asm); (case s5 => k_asm); (case s6 => k_asm); (case s7 => k_asm); (case s8 => exact rfl); (case s9 => ktr_room); (case s10 => ktr_units)); intro t9 h9 tk9 F9 N9 htk9; (try dsimp only at htk9); (try k_lt l9); (try dsimp only)))
local macro_rules | `(tactic| walk_at "call ref") => `(tactic| ((with_reducible show wpAny _ _ (call (Value.ref 49) _) _ _ _); k_dflt (refine Mine.pos (by first | assumption | (dsimp only; omega)) ?_; refine' check_call ?b1 ?b2 ?b3 ?b4 ?b5 ?s3 ?s4 ?s5 ?s6 ?s7 ?s8 ?s9 ?s10 ?_; (case b1 => exact Plain.hq (by assumption)); (case b2 => exact Plain.hx (by assumption)); (case b3 => exact Plain.hasc (by assumption)); (case b4 => exact Plain.hbs (by assumption)); (case b5 => first | assumption | (dsimp only; omega)); (case s3 => k_asm); (case s4 => k_asm); (case s5 => k_asm); (case s6 => k_asm); (case s7 => k_asm); (case s8 => exact rfl); (case s9 => ktr_room); (case s10 => ktr_units)); intro h9 tk9 G9 htk8 F9 N9 htk9; (try dsimp only at htk9); (try k_lt l9); (try dsimp only)))
local macro_rules | `(tactic| walk_at "call ref") => `(tactic| ((with_reducible show wpAny _ _ (call (Value.ref 82) _) _ _ _); k_dflt (refine Mine.pos (by first | assumption | (dsimp only; omega)) ?_; refine' dress_call ?b1 ?b2 ?b5 ?s3 ?s4 ?s5 ?s6 ?s7 ?s8 ?s9 ?s10 ?_; (case b1 => omega); (case b2 => assumption); (case b5 => first | assumption | (dsimp only; omega)); (case s3 => k_asm); (case s4 => k_asm); (case s5 => k_asm); (case s6 => k_asm); (case s7 => k_asm); (case s8 => exact rfl); (case s9 => ktr_room); (case s10 => ktr_units)); intro t9 h9 tk9 F9 N9 htk9; (try dsimp only at htk9); (try k_lt l9); (try dsimp only)))
theorem nearest_call {w : World} {mg mb : Str → Option Value} {mean : ExcName → Option Value} {x : Str} {b : Bool} {tx : Tok} {news : List (Addr × Obj)}
    {dp un : Nat} {gd : Option (List Code)} {cn : Str} {cs : Scope} {a : Addr} {ccd : Value} {cl : List (Str × Addr)} {outer : List Env} {A₀ : Around} {base h₀ : Heap} {L : Addr} {m : Str → Option Value} {s : Shared} {Q E : Value → Shared → Prop}
    (ok : NearOk x b) (h0 : 0 < s.toks) (hB : Below A₀ base outer h₀) (F : Fr h₀ L s.heap m) (hX : (hd.heap_39 w.params).In h₀) (N : News h₀ L s.heap news) (hT : Top hd.view_39 (looseW hd.view_39 []) mean mg mb h₀) (hcs : cs.kind = .function)
    (hdp : dp + 200 < recursionLimit) (hun : un + 1600 < cLine)
    (hret : ∀ (h' : Heap) (tk' : Nat) (G : Array GenState), Fr h₀ L h' m → News h₀ L h' news → Q (.bool true) { s with heap := h', toks := tk', gens := G }) :
    wpAny (model PySem.Challenge.rw_pg0136_01.row.prog w) (ktrTop dp un gd cn cs L a ccd cl outer) (call (.ref 87) [.str x tx, .bool b]) Q E s := by
  w_top off
  revert hX; k_fill; intro hX
  refine wpAny_call ?_
  k_dflt (refine' code_defC ?k1 ?k2 ?k3 ?k4 ?k5 ?kA ?kF ?kK ?k6 ?k7 ?k8 ?k9 ?kB ?kD ?_ ?c2 ?c3 ?c4; (case kA => exact rfl); (case kF => exact rfl); (case kK => assumption); (case k1 => k_asm); (case k2 => k_asm); (case k3 => k_asm); (case k4 => k_asm); (case k5 => k_asm); (case k6 => k_is); (case k7 => k_is); (case k8 => ktr_room); (case k9 => exact BindsTo.of_eq rfl); (case kB => exact rfl); (case kD => decide +kernel); (case c2 => exact rfl); (case c3 => exact rfl); (case c4 => exact rfl); k_whole; intro g' L' h' tk' cells' FG' F' N' Y' B' X' T' l1; (try k_lt l1); k_cells Y'; (try simp only [List.cons_append, List.nil_append] at N'); (try dsimp only); (try k_lift B'); (try k_fold))
  clear F
  rename_i o1 o2 o3 o4 o5 o6 d1 d2 d3 d4 d5 d6
  replace d1 : o1.data = .cell none := d1
  replace d2 : o2.data = .cell none := d2
  replace d3 : o3.data = .cell none := d3
  replace d4 : o4.data = .cell none := d4
  replace d5 : o5.data = .cell (some (.bool b)) := d5
  replace d6 : o6.data = .cell (some (.str x tx)) := d6
  refine forget F' [] fa0 ?_
  clear F'
  intro u F
  dsimp only [kstB] at F
  have hlen := ok.len
  have hasc := ok.px.hasc
  have hxrep := ok.xrep
  have hr0 : 0 ≤ ((x.length : Int).fdiv 2) := by rcases hlen with e | e <;> (rw [e]; decide)
  have hrn : ((x.length : Int).fdiv 2) + ((x.length : Int).fdiv 2) = (x.length : Int) := by rcases hlen with e | e <;> (rw [e]; decide)
  have hn6 : x.length ≤ 6 := by omega
  obtain ⟨RW, hRW⟩ : ∃ RW, rowsI (x.length + 1) ((x.length : Int).fdiv 2) ((x.length : Int).fdiv 2) = RW := ⟨_, rfl⟩
  have hRW' : rowsOf x = RW := hRW
  have hgood : ∀ y ∈ RW, goodGo 3 y = true := hRW' ▸ ok.good
  have hRl : RW.length ≤ 100 := hRW' ▸ ok.few
  have hpl : ∀ y ∈ RW, Plain y := hRW' ▸ ok.plain
  have hlay1 : ∀ y ∈ RW.map preP, PyData.canLay0 (.str y) = true := hRW' ▸ ok.lay1
  have hKP0 : keptOf x = RW.filter (closesGo 3) := by rw [keptOf, hRW']
  have hlay2 : ∀ y ∈ RW.map (keepP (RW.filter (closesGo 3))), PyData.canLay0 (.str y) = true := by rw [← hKP0, ← hRW']; exact ok.lay2
  have hsame : (!decide (RW.map preP = RW.map (keepP (RW.filter (closesGo 3))))) = false := by rw [← hKP0, ← hRW']; exact ok.same
  k_steps
  refine go ?_
  rename StrsAre _ _ => I1
  rw [hRW] at I1
  have I1l := I1.length
  refine wpAny_Assign_Name ?_
  refine comp_at (cl := []) rfl rfl (by decide) ?_
  k_steps
  rename Fr _ _ _ _ => F
  rename News _ _ _ _ => N
  refine comp_list (fun i ys => StrsAre ys ((RW.take i).filter (closesGo 3))) (by first | assumption | (dsimp only; omega)) rfl (by decide) rfl rfl (.head _) (by unfold sizeLine; omega) F N .nil ?_ ?_
  · intro i v I oI C oC D m₂ ys h tk E' hv htk hPi hC hm₂ F N off ne
    obtain ⟨y, t, rfl, hy⟩ := StrsAre.item I1 i v hv
    have hg : goodGo 3 y = true := hgood y (List.mem_of_getElem? hy)
    refine wpAny_tests_one ?_
    k_steps
    · refine go ?_
      rename Fr _ _ _ _ => F
      rename News _ _ _ _ => N
      refine c_end F N (fun p hp => hp) ?_
      show StrsAre _ _
      rw [List.take_add_one, hy, List.filter_append]
      show StrsAre _ (_ ++ List.filter _ [y])
      rw [List.filter_cons_of_pos (by assumption)]
      exact hPi.append' (.cons _ _ .nil)
    · refine go ?_
      rename Fr _ _ _ _ => F
      rename News _ _ _ _ => N
      refine c_end F N (fun p hp => hp) ?_
      show StrsAre _ _
      rw [List.take_add_one, hy, List.filter_append]
      show StrsAre _ (_ ++ List.filter _ [y])
      rw [List.filter_cons_of_neg (by simp [*]), List.filter_nil, List.append_nil]
      exact hPi
  clear F N
  intro D2 ys2 h2 tk2 htk2 hP2 F N lt2
  rw [I1l, List.take_length] at hP2
  obtain ⟨KP, hKP⟩ : ∃ KP, RW.filter (closesGo 3) = KP := ⟨_, rfl⟩
  rw [hKP] at hP2
  have hKP' : keptOf x = KP := hKP0.trans hKP
  k_lt lt2
  k_steps
  refine go ?_
  rename StrsAre _ (List.map preP RW) => I3
  refine comp_at rfl rfl (by decide) ?_
  k_steps
  rename Fr _ _ _ _ => F
  rename News _ _ _ _ => N
  refine comp_list (fun i ys => StrsAre ys ((RW.take i).map (keepP KP))) (by first | assumption | (dsimp only; omega)) rfl (by decide) rfl rfl (.tail _ (.tail _ (.head _))) (by unfold sizeLine; omega) F N .nil ?_ ?_
  · intro i v I oI C oC D m₂ ys h tk E' hv htk hPi hC hm₂ F N off ne
    obtain ⟨y, t, rfl, hy⟩ := StrsAre.item I1 i v hv
    refine wpAny_tests_nil ?_
    intro htk'
    rw [if_pos rfl]
    k_steps
    · refine go ?_
      rename Fr _ _ _ _ => F
      rename News _ _ _ _ => N
      refine c_end F N (fun p hp => hp) ?_
      show StrsAre _ _
      rw [List.take_add_one, hy, List.map_append]
      show StrsAre _ (_ ++ [keepP KP y])
      rw [keep_yes (by assumption)]
      exact hPi.append' (.cons _ _ .nil)
    · refine go ?_
      rename Fr _ _ _ _ => F
      rename News _ _ _ _ => N
      refine c_end F N (fun p hp => hp) ?_
      show StrsAre _ _
      rw [List.take_add_one, hy, List.map_append]
      show StrsAre _ (_ ++ [keepP KP y])
      rw [keep_no (by assumption)]
      exact hPi.append' (.cons _ _ .nil)
  clear F N
  intro D4 ys4 h4 tk4 htk4 hP4 F N lt4
  rw [I1l, List.take_length] at hP4
  k_lt lt4
  k_steps
  refine go ?_
  rename Fr _ _ _ _ => F
  rename News _ _ _ _ => N
  rw [hKP] at hlay2 hsame
  refine ne_texts ⟨_, (N _ (.tail _ (.head _))).1, rfl, _, rfl⟩ ⟨_, (N _ (.head _)).1, rfl, _, rfl⟩ I3 hP4 hlay1 hlay2 (by ktr_units) ?_
  rw [hsame]
  replace N := fun p hp => N p (.tail _ (.tail _ hp))
  clear I3 hP4 lt4
  k_steps
  refine go ?_
  refine comp_asg_at rfl rfl rfl (by decide) ?_
  k_steps
  rename Fr _ _ _ _ => F
  rename News _ _ _ _ => N
  rename IntsAre _ _ => J1
  have J1l := J1.length
  have hmem := alone_mem x x.cps.size
  have hal : (aloneP x).length ≤ 6 := Nat.le_trans hmem.1 hn6
  refine comp_asg (fun i ys => IntsAre ys (((aloneP x).take i).filter fun p => Txt.item x p == Str.ofString ")")) rfl rfl rfl (by first | assumption | (dsimp only; omega)) rfl (by decide) rfl rfl (.head _) (by rw [J1l]; unfold sizeLine; omega) F N .nil ?_ ?_
  · intro i v I oI C oC D m₂ ys h tk E' hv htk hPi hC hm₂ F N off ne
    obtain ⟨p, t, rfl, hpi⟩ := IntsAre.at J1 i v hv
    have hb : 0 ≤ p ∧ p < (x.length : Int) := hmem.2 p (List.mem_of_getElem? hpi)
    refine wpAny_tests_one ?_
    k_steps
    · refine go ?_
      rename Fr _ _ _ _ => F
      rename News _ _ _ _ => N
      refine c_end F N (fun p hp => hp) ?_
      show IntsAre _ _
      rw [List.take_add_one, hpi, List.filter_append]
      show IntsAre _ (_ ++ List.filter _ [p])
      rw [List.filter_cons_of_pos (by assumption)]
      exact hPi.append (.cons _ _ .nil)
    · refine go ?_
      rename Fr _ _ _ _ => F
      rename News _ _ _ _ => N
      refine c_end F N (fun p hp => hp) ?_
      show IntsAre _ _
      rw [List.take_add_one, hpi, List.filter_append]
      show IntsAre _ (_ ++ List.filter _ [p])
      rw [List.filter_cons_of_neg (by simp [*]), List.filter_nil, List.append_nil]
      exact hPi
  clear F N
  intro D5 ys5 h5 tk5 htk5 hP5 F N lt5
  rw [J1l, List.take_length] at hP5
  obtain ⟨CL, hCL⟩ : ∃ CL, (aloneP x).filter (fun p => Txt.item x p == Str.ofString ")") = CL := ⟨_, rfl⟩
  rw [hCL] at hP5
  replace N : News _ _ _ (_ :: _) := fun p hp => N p (skip1 hp)
  replace lt5 := fun p hp => lt5 p (.tail _ hp)
  clear J1 J1l
  k_lt lt5
  k_steps
  refine go ?_
  refine comp_asg_at rfl rfl rfl (by decide) ?_
  k_steps
  rename Fr _ _ _ _ => F
  rename News _ _ _ _ => N
  rename IntsAre _ (aloneP x) => J1
  have J1l := J1.length
  refine comp_asg (fun i ys => IntsAre ys (((aloneP x).take i).filter fun p => Txt.item x p == Str.ofString "(")) rfl rfl rfl (by first | assumption | (dsimp only; omega)) rfl (by decide) rfl rfl (.head _) (by rw [J1l]; unfold sizeLine; omega) F N .nil ?_ ?_
  · intro i v I oI C oC D m₂ ys h tk E' hv htk hPi hC hm₂ F N off ne
    obtain ⟨p, t, rfl, hpi⟩ := IntsAre.at J1 i v hv
    have hb : 0 ≤ p ∧ p < (x.length : Int) := hmem.2 p (List.mem_of_getElem? hpi)
    refine wpAny_tests_one ?_
    k_steps
    · refine go ?_
      rename Fr _ _ _ _ => F
      rename News _ _ _ _ => N
      refine c_end F N (fun p hp => hp) ?_
      show IntsAre _ _
      rw [List.take_add_one, hpi, List.filter_append]
      show IntsAre _ (_ ++ List.filter _ [p])
      rw [List.filter_cons_of_pos (by assumption)]
      exact hPi.append (.cons _ _ .nil)
    · refine go ?_
      rename Fr _ _ _ _ => F
      rename News _ _ _ _ => N
      refine c_end F N (fun p hp => hp) ?_
      show IntsAre _ _
      rw [List.take_add_one, hpi, List.filter_append]
      show IntsAre _ (_ ++ List.filter _ [p])
      rw [List.filter_cons_of_neg (by simp [*]), List.filter_nil, List.append_nil]
      exact hPi
  clear F N
  intro D6 ys6 h6 tk6 htk6 hP6 F N lt6
  rw [J1l, List.take_length] at hP6
  obtain ⟨OP, hOP⟩ : ∃ OP, (aloneP x).filter (fun p => Txt.item x p == Str.ofString "(") = OP := ⟨_, rfl⟩
  rw [hOP] at hP6
  replace N : News _ _ _ (_ :: _) := fun p hp => N p (skip1 hp)
  replace lt6 := fun p hp => lt6 p (.tail _ hp)
  clear J1 J1l
  k_lt lt6
  have hCLl : CL.length ≤ 6 := hCL ▸ Nat.le_trans (List.length_filter_le _ _) hal
  have hOPl : OP.length ≤ 6 := hOP ▸ Nat.le_trans (List.length_filter_le _ _) hal
  have hf1 : 0 ≤ ((CL.length : Int) + 1).fdiv 2 := Int.fdiv_nonneg (by omega) (by decide)
  have hf2 : 0 ≤ (OP.length : Int).fdiv 2 := Int.fdiv_nonneg (by omega) (by decide)
  k_steps
  refine go ?_
  refine pair_at rfl rfl (by decide) ?_
  k_steps
  refine go ?_
  rename Fr _ _ _ _ => F
  rename News _ _ _ _ => N
  rename IntsAre _ (List.take _ CL ++ List.drop _ OP) => I7
  obtain ⟨TU, hTU⟩ : ∃ TU, List.take ((CL.length + 1 : Int).fdiv 2).toNat CL ++ List.drop ((OP.length : Int).fdiv 2).toNat OP = TU := ⟨_, rfl⟩
  rw [hTU] at I7
  have hTU' : turnP x = TU := by rw [← hTU, ← hCL, ← hOP]; rfl
  clear hP5 hP6
  refine comp_enum (fun i ys => StrsAre ys ((List.range i).map (mendC x TU))) (by first | assumption | (dsimp only; omega)) rfl (by decide) rfl rfl rfl (by decide) hasc (by show x.length ≤ _; unfold sizeLine; omega) F N .nil ?_ ?_
  · intro i cc t0 t1 I oI C oC D I2 o2 m₂ ys h tk E' hcc htk hPi hC hmx hmy F N off ne
    k_steps
    · refine go ?_
      rename Fr _ _ _ _ => F
      rename News _ _ _ _ => N
      refine c_end F N (fun p hp => hp) ?_
      show StrsAre _ _
      rw [mend_yes hcc (by assumption)]
      exact hPi.append' (.cons _ _ .nil)
    · refine go ?_
      rename Fr _ _ _ _ => F
      rename News _ _ _ _ => N
      refine c_end F N (fun p hp => hp) ?_
      show StrsAre _ _
      rw [mend_no hcc (by assumption)]
      exact hPi.append' (.cons _ _ .nil)
  clear F N
  intro D8 ys8 h8 tk8 htk8 hP8 F N lt8
  k_lt lt8
  k_steps
  refine go ?_
  rename Fr _ _ _ _ => F
  rename News _ _ _ _ => N
  refine Mine.pos (by first | assumption | (dsimp only; omega)) ?_
  refine join_listW (items := ys8.toArray) ⟨_, (N _ (.head _)).1, rfl, _, rfl⟩ hP8 (by decide) (by rw [mend_sum, List.length_map, List.length_range]; show x.length + x.length ≤ _; omega) ?_
  obtain ⟨ME, hME⟩ : ∃ ME, mendP x TU = ME := ⟨_, rfl⟩
  intro t8 k8 htk8'
  rw [show Txt.join (Str.ofString "") ((List.range x.cps.size).map (mendC x TU)) = ME from hME]
  dsimp only at htk8'
  replace N := fun p hp => N p (.tail _ hp)
  clear hP8 lt8
  have hTUl : TU.length ≤ 6 := hTU' ▸ ok.most
  k_steps
  refine go ?_
  refine Mine.pos (by first | assumption | (dsimp only; omega)) ?_
  refine v_cut (if b = true then 1 else 2) ?_ ?_
  · k_steps
    · refine go ?_
      have hb : b = true := by assumption
      rw [if_pos hb]
      exact v_end
    · refine go ?_
      have hb : b = false := by assumption
      rw [if_neg (by rw [hb]; exact Bool.false_ne_true)]
      exact v_end
  intro tf kf htkf
  dsimp only at htkf
  dsimp only
  have hib : 0 ≤ (if b = true then (1 : Int) else 2) ∧ (if b = true then (1 : Int) else 2) ≤ 2 := by split <;> decide
  obtain ⟨UN, hUN⟩ : ∃ UN : Int, (if b = true then 1 else 2) = UN := ⟨_, rfl⟩
  rw [hUN] at hib
  rw [hUN]
  have hxl := ok.xlen
  have hpx := ok.px
  k_steps
  refine go ?_
  obtain ⟨DU, hDU⟩ : ∃ DU : Int, (TU.length : Int) * UN = DU := ⟨_, rfl⟩
  have hDP : dueP x b = DU := by rw [dueP, hTU', hUN, hDU]
  have hDb : 0 ≤ DU ∧ DU ≤ 100 := by
    have h1 : 0 ≤ (TU.length : Int) * UN := Int.mul_nonneg (by omega) hib.1
    have h2 : (TU.length : Int) * UN ≤ 6 * 2 := Int.mul_le_mul (by omega) hib.2 hib.1 (by decide)
    omega
  obtain ⟨WD, hWD⟩ : ∃ WD, dressP x b = WD := ⟨_, rfl⟩
  rename Fr _ _ _ _ => F
  rename News _ _ _ _ => N
  rename _ = Data.cell (some (Value.str (dressP x b) _)) => dW
  rw [hDU] at F
  rw [hWD] at dW hxl
  have hKg : ∀ y ∈ KP, y.length ≤ 40 ∧ (Txt.replace y (Str.ofString "(") (Str.ofString "a")).length ≤ 40 ∧ (dressP y b).length = WD.length := by
    intro y hy
    rw [← hKP'] at hy
    refine ⟨good_len (ok.good y (List.mem_filter.mp hy).1), ok.rep y hy, ?_⟩
    rw [← hWD]
    exact ok.alike y hy
  refine comp_asg_at rfl rfl rfl (by decide) ?_
  k_steps
  rename Fr _ _ _ _ => F
  rename News _ _ _ _ => N
  have hKl : KP.length ≤ 100 := hKP ▸ Nat.le_trans (List.length_filter_le _ _) hRl
  have hP2l := hP2.length
  refine comp_asg (fun i ys => IntsAre ys ((KP.take i).map fun y => levP WD (dressP y b) (2 * (x.length : Int)))) rfl rfl rfl (by first | assumption | (dsimp only; omega)) rfl (by decide) rfl rfl (.tail _ (.tail _ (.tail _ (.tail _ (.tail _ (.head _)))))) (by rw [hP2l]; unfold sizeLine; omega) F N .nil ?_ ?_
  · intro i v I oI C oC D m₂ ys h tk E' hv htk hPi hC hm₂ F N off ne
    obtain ⟨y, t, rfl, hy⟩ := StrsAre.item hP2 i v hv
    have hg := hKg y (List.mem_of_getElem? hy)
    have hg1 := hg.1
    have hg2 := hg.2.1
    have hg3 := hg.2.2
    clear hg
    refine wpAny_tests_nil ?_
    intro htk'
    rw [if_pos rfl]
    k_steps
    refine go ?_
    rename Fr _ _ _ _ => F
    rename News _ _ _ _ => N
    refine c_end F N (fun p hp => hp) ?_
    show IntsAre _ _
    rw [List.take_add_one, hy, List.map_append]
    exact hPi.append (.cons _ _ .nil)
  clear F N
  intro D10 ys10 h10 tk10 htk10 hP10 F N lt10
  rw [hP2l, List.take_length] at hP10
  k_lt lt10
  k_steps
  refine go ?_
  rename Fr _ _ _ _ => F
  rename News _ _ _ _ => N
  have hKne : 0 < (KP.map fun y => levP WD (dressP y b) (2 * (x.length : Int))).length := by
    obtain ⟨y, hy, _⟩ := ok.hit
    rw [hKP'] at hy
    rw [List.length_map]
    exact List.length_pos_of_mem hy
  refine Mine.pos (by first | assumption | (dsimp only; omega)) ?_
  refine kso_min F N ⟨_, (N _ (.head _)).1, rfl, _, rfl⟩ hP10 hKne rfl ?_
  clear F
  intro h11 M t11 tk11 F N' hM hMle htk11
  dsimp only at htk11
  have hMD : M = DU := by
    have h1 : M ≤ DU := by
      obtain ⟨y, hy, e⟩ := ok.hit
      rw [hKP'] at hy
      rw [hWD, hDP] at e
      have := hMle _ (List.mem_map_of_mem hy)
      rwa [e] at this
    have h2 : DU ≤ M := by
      obtain ⟨y, hy, rfl⟩ := List.mem_map.mp hM
      have := ok.least y (by rw [hKP']; exact hy)
      rwa [hWD, hDP] at this
    omega
  subst hMD
  clear hM hMle hKne hP10 N
  have hchk : checkP x = (M == 0) := by rw [ok.chk, hDP]
  have hMEa : (KP.any fun y => y == ME) = true := by
    have := ok.mend
    rwa [hKP', hTU', hME] at this
  have hMEk : ME ∈ KP := by
    obtain ⟨y, hy, hye⟩ := List.any_eq_true.mp hMEa
    rwa [eq_of_beq hye] at hy
  have hm := hKg ME hMEk
  have hm1 := hm.1
  have hm2 := hm.2.1
  have hm3 := hm.2.2
  have hlast : levP (dressP ME b) WD M = M := by
    have := ok.last
    rwa [hTU', hME, hWD, hDP] at this
  clear hm hKg
  k_steps
  · exact absurd rfl (by assumption : M ≠ M)
  · exfalso
    have hbad : (checkP x != (M == 0)) = true := by assumption
    rw [hchk, bne_self_eq_false] at hbad
    exact Bool.noConfusion hbad
  rename Fr h₀ L _ _ => F
  rename News h₀ L _ _ => N
  rw [hlast, beq_self_eq_true]
  exact hret _ _ _ F (fun p hp => N p (by repeat first | exact hp | apply List.Mem.tail))
end
end Mine

end
section
open PySem PySem.W PyProof.Rows PySem.Calls PyProof.V PySem.Spec
set_option maxRecDepth 100000
set_option maxHeartbeats 400000
namespace Mine
def mkS (l : List Nat) : Str := ⟨l.toArray⟩
/-- signs in common at the head -/
def cpre : List Nat → List Nat → Nat
  | a :: as, b :: bs => if a = b then cpre as bs + 1 else 0
  | _, _ => 0
def lowN (c : Nat) : Nat := if c = 65 then 97 else c
def costF (c d : Nat) : Int := if c = d then 0 else if lowN c = lowN d then 1 else 2
def cellStepF (bc : Nat) (a : List Nat) (st : Int × Int × List Int × Int) (i : Nat) : Int × Int × List Int × Int :=
  let d := st.2.2.1.getD i 0
  let i1 := (if d < st.2.1 then d else st.2.1) + 2
  let sub := st.1 + costF bc (a.getD i 0)
  let r := if sub < i1 then sub else i1
  (d, r, st.2.2.1.set i r, if r < st.2.2.2 then r else st.2.2.2)
def innerF (bc : Nat) (a : List Nat) (row : List Int) (i : Nat) : Int × Int × List Int × Int :=
  (List.range a.length).foldl (cellStepF bc a) ((i : Int) * 2, (i : Int) * 2, row, 9223372036854775807)
def outerF (a b : List Nat) (mx : Int) : Nat → Nat → Int → List Int → Int
  | 0, _, res, _ => res
  | n + 1, i, _, row =>
    let st := innerF (b.getD i 0) a row i
    if st.2.2.2 > mx then mx + 1 else outerF a b mx n (i + 1) st.2.1 st.2.2.1
def tailF (a b : List Nat) (mx : Int) : Int :=
  if a.length = 0 then 2 * ((a.length : Int) + b.length) else if b.length = 0 then 2 * ((a.length : Int) + b.length) else outerF a b mx b.length 0 0 (rowInit a.length)
def levF (x y : List Nat) (mx : Int) : Int :=
  if x = y then 0 else
  let p := cpre x y
  let a := x.drop p
  let b := y.drop p
  let q := cpre a.reverse b.reverse
  tailF (a.take (a.length - q)) (b.take (b.length - q)) mx
def signs : List Nat := [40, 41, 65, 97]
theorem mkS_len (l : List Nat) : (mkS l).length = l.length := by simp [mkS, Str.length]
theorem item_mk (l : List Nat) (i : Nat) (h : i < l.length) : Txt.item (mkS l) (i : Int) = Str.mk #[l.getD i 0] := by
  rw [item_at (n := i) (by omega) (by rw [mkS_len]; omega) (by omega)]
  simp [mkS, Array.getD_eq_getD_getElem?]
theorem subst_mk : ∀ c ∈ signs, ∀ d ∈ signs, substP (Str.mk #[c]) (Str.mk #[d]) = costF c d := by decide +kernel
theorem getD_signs {l : List Nat} (h : ∀ c ∈ l, c ∈ signs) {i : Nat} (hi : i < l.length) : l.getD i 0 ∈ signs := by
  rw [List.getD_eq_getElem?_getD, List.getElem?_eq_getElem hi]
  exact h _ (List.getElem_mem hi)
theorem foldl_same {α β : Type} {f g : β → α → β} : ∀ (l : List α) (s : β), (∀ s, ∀ x ∈ l, f s x = g s x) → l.foldl f s = l.foldl g s
  | [], _, _ => rfl
  | x :: r, s, h => by
    rw [List.foldl_cons, List.foldl_cons, h s x (.head _)]
    exact foldl_same r _ fun s y hy => h s y (.tail _ hy)
theorem inner_mk {bc : Nat} {a : List Nat} {row : List Int} {i : Nat} (hb : bc ∈ signs) (ha : ∀ c ∈ a, c ∈ signs) : innerP (Str.mk #[bc]) (mkS a) row i = innerF bc a row i := by
  unfold innerP innerF
  rw [mkS_len]
  refine foldl_same _ _ fun s j hj => ?_
  have hj := List.mem_range.mp hj
  unfold cellStep cellStepF
  rw [item_mk a j hj, subst_mk bc hb _ (getD_signs ha hj)]
theorem outer_mk {a b : List Nat} {mx : Int} (ha : ∀ c ∈ a, c ∈ signs) (hb : ∀ c ∈ b, c ∈ signs) : ∀ (n i : Nat) (res : Int) (row : List Int), i + n = b.length → outerP (mkS a) (mkS b) mx n i res row = outerF a b mx n i res row
  | 0, _, _, _, _ => rfl
  | n + 1, i, res, row, h => by
    unfold outerP outerF
    rw [item_mk b i (by omega), inner_mk (getD_signs hb (by omega)) ha]
    simp only [outer_mk ha hb n (i + 1) _ _ (by omega)]
theorem tail_mk {a b : List Nat} {mx : Int} (ha : ∀ c ∈ a, c ∈ signs) (hb : ∀ c ∈ b, c ∈ signs) : tailP (mkS a) (mkS b) mx = tailF a b mx := by
  unfold tailP tailF
  rw [mkS_len, mkS_len, outer_mk ha hb _ _ _ _ (by omega)]
theorem beq_one (c d : Nat) : (Str.mk #[c] == Str.mk #[d]) = decide (c = d) := by
  show decide (Str.mk #[c] = Str.mk #[d]) = _
  simp
theorem drop_mk (l : List Nat) (p : Nat) (h : p ≤ l.length) : Txt.slice (mkS l) (some (p : Int)) none = mkS (l.drop p) := by
  rw [slice_sn _ _ (by omega) (by rw [mkS_len]; omega)]
  simp [mkS]
theorem cut_mk (l : List Nat) (q : Nat) (h : q ≤ l.length) : cutEnd (mkS l) (-(q : Int)) = mkS (l.take (l.length - q)) := by
  unfold cutEnd
  split
  · have : q = 0 := by omega
    subst this
    rw [slice_nn, Nat.sub_zero, List.take_length]
  · rw [slice_ns _ _ (by omega) (by rw [mkS_len]; omega), mkS_len, show ((l.length : Int) + -(q : Int)).toNat = l.length - q by omega]
    simp [mkS]
theorem pre_mk {x y : List Nat} (hl : y.length = x.length) : ∀ (k p : Nat), p + k = x.length → pre1 (mkS x) (mkS y) (k + 1) (p : Int) = ((p + cpre (x.drop p) (y.drop p) : Nat) : Int)
  | 0, p, h => by
    rw [pre1_s1 (by rw [drop_mk _ _ (by omega), mkS_len, List.length_drop]; omega)]
    rw [List.drop_of_length_le (by omega : x.length ≤ p)]
    simp [cpre]
  | k + 1, p, h => by
    have hx : p < x.length := by omega
    have hy : p < y.length := by omega
    have e1 : (Txt.slice (mkS x) (some (p : Int)) none).length ≠ 0 := by rw [drop_mk _ _ (by omega), mkS_len, List.length_drop]; omega
    have e2 : (Txt.slice (mkS y) (some (p : Int)) none).length ≠ 0 := by rw [drop_mk _ _ (by omega), mkS_len, List.length_drop]; omega
    have ex : x.getD p 0 = x[p] := by rw [List.getD_eq_getElem?_getD, List.getElem?_eq_getElem hx]; rfl
    have ey : y.getD p 0 = y[p] := by rw [List.getD_eq_getElem?_getD, List.getElem?_eq_getElem hy]; rfl
    rw [List.drop_eq_getElem_cons hx, List.drop_eq_getElem_cons hy, cpre]
    by_cases q : x[p] = y[p]
    · rw [pre1_go e1 e2 (by rw [item_mk _ _ hx, item_mk _ _ hy, beq_one, ex, ey]; exact decide_eq_true q), if_pos q]
      have := pre_mk hl k (p + 1) (by omega)
      rw [show ((p : Int) + 1) = ((p + 1 : Nat) : Int) by omega, this]
      omega
    · rw [pre1_s3 (by rw [item_mk _ _ hx, item_mk _ _ hy, beq_one, ex, ey]; exact decide_eq_false q), if_neg q]
      omega
theorem item_neg {l : List Nat} {k q : Nat} (h : q + (k + 1) = l.length) : Txt.item (mkS l) (-(q : Int) - 1) = Str.mk #[l.getD k 0] := by
  have := item_closes_neg (x := mkS l) (i := -(q : Int) - 1) (j := k) (by omega) (by rw [mkS_len]; omega) (by rw [mkS_len]; omega)
  rw [eq_of_beq this]
  simp [mkS, Array.getD_eq_getD_getElem?]
theorem post_mk {x y : List Nat} (hl : y.length = x.length) : ∀ (k q : Nat), q + k = x.length → post1 (mkS x) (mkS y) (k + 1) (-(q : Int)) = -((q + cpre (x.take k).reverse (y.take k).reverse : Nat) : Int)
  | 0, q, h => by
    rw [post1_s1 (by rw [cut_mk _ _ (by omega), mkS_len, List.length_take]; omega)]
    simp [cpre]
  | k + 1, q, h => by
    have hx : k < x.length := by omega
    have hy : k < y.length := by omega
    have e1 : (cutEnd (mkS x) (-(q : Int))).length ≠ 0 := by rw [cut_mk _ _ (by omega), mkS_len, List.length_take]; omega
    have e2 : (cutEnd (mkS y) (-(q : Int))).length ≠ 0 := by rw [cut_mk _ _ (by omega), mkS_len, List.length_take]; omega
    have ex : x.getD k 0 = x[k] := by rw [List.getD_eq_getElem?_getD, List.getElem?_eq_getElem hx]; rfl
    have ey : y.getD k 0 = y[k] := by rw [List.getD_eq_getElem?_getD, List.getElem?_eq_getElem hy]; rfl
    rw [List.take_succ_eq_append_getElem hx, List.take_succ_eq_append_getElem hy, List.reverse_append, List.reverse_append]
    simp only [List.reverse_cons, List.reverse_nil, List.nil_append, List.cons_append]
    rw [cpre]
    by_cases z : x[k] = y[k]
    · rw [post1_go e1 e2 (by rw [item_neg h, item_neg (l := y) (k := k) (by omega), beq_one, ex, ey]; exact decide_eq_true z), if_pos z]
      have := post_mk hl k (q + 1) (by omega)
      rw [show (-(q : Int) - 1) = -((q + 1 : Nat) : Int) by omega, this]
      omega
    · rw [post1_s3 (by rw [item_neg h, item_neg (l := y) (k := k) (by omega), beq_one, ex, ey]; exact decide_eq_false z), if_neg z]
      omega
theorem cpre_le : ∀ (a b : List Nat), cpre a b ≤ a.length ∧ cpre a b ≤ b.length
  | [], _ => by simp [cpre]
  | _ :: _, [] => by simp [cpre]
  | a :: as, b :: bs => by
    have := cpre_le as bs
    rw [cpre]
    split <;> simp only [List.length_cons] <;> omega
theorem lev_mk {x y : List Nat} {mx : Int} (hl : y.length = x.length) (hx : ∀ c ∈ x, c ∈ signs) (hy : ∀ c ∈ y, c ∈ signs) : levP (mkS x) (mkS y) mx = levF x y mx := by
  unfold levP levF
  by_cases e : x = y
  · rw [if_pos (by rw [e]), if_pos e]
  · rw [if_neg (by intro h; exact e (by simpa [mkS] using h)), if_neg e]
    have h1 := pre_mk hl x.length 0 (by omega)
    rw [List.drop_zero, List.drop_zero, Nat.zero_add] at h1
    have c1 := cpre_le x y
    rw [mkS_len, show (0 : Int) = ((0 : Nat) : Int) by rfl, h1]
    dsimp only
    rw [drop_mk _ _ c1.1, drop_mk _ _ c1.2, mkS_len]
    have hl2 : (y.drop (cpre x y)).length = (x.drop (cpre x y)).length := by rw [List.length_drop, List.length_drop]; omega
    have h2 := post_mk hl2 (x.drop (cpre x y)).length 0 (by omega)
    rw [List.take_length, ← hl2, List.take_length, hl2, Nat.zero_add] at h2
    have c2 := cpre_le (x.drop (cpre x y)).reverse (y.drop (cpre x y)).reverse
    rw [List.length_reverse, List.length_reverse] at c2
    rw [show (((0 : Nat) : Int)) = -((0 : Nat) : Int) by rfl, h2, cut_mk _ _ c2.1, cut_mk _ _ c2.2]
    exact tail_mk (fun c hc => hx c (List.mem_of_mem_drop (List.mem_of_mem_take hc))) (fun c hc => hy c (List.mem_of_mem_drop (List.mem_of_mem_take hc)))
end Mine

end
section
open PySem PySem.W PyProof.Rows PySem.Calls PyProof.V PySem.Spec
set_option maxRecDepth 100000
set_option maxHeartbeats 400000
namespace Mine
def plainB (x : Str) : Bool := (Builtin.Str.occurrences x (Str.ofString "\"") 0 x.length 1).isEmpty && decide (x.length ≤ 40) && x.cps.all (· < 128) && x.cps.toList.all fun c => !(Str.mk #[c] == Str.ofString "\\")
theorem plain_of {x : Str} (h : plainB x = true) : Plain x := by
  simp only [plainB, Bool.and_eq_true] at h
  obtain ⟨⟨⟨h1, h2⟩, h3⟩, h4⟩ := h
  refine ⟨h1, of_decide_eq_true h2, h3, fun i cc hc => ?_⟩
  have hm : cc ∈ x.cps.toList := by
    have := Array.mem_of_getElem? hc
    exact Array.mem_toList_iff.mpr this
  have := List.all_eq_true.mp h4 cc hm
  simpa using this
def RN (n : Nat) : List Str := rowsI (n + 1) ((n : Int).fdiv 2) ((n : Int).fdiv 2)
structure SizeOk (n : Nat) (KN : List (List Nat)) : Prop where
  len : n = 4 ∨ n = 6
  good : (RN n).all (goodGo 3) = true
  few : (RN n).length ≤ 100
  plain : (RN n).all plainB = true
  lay1 : ((RN n).map preP).all (fun y => PyData.canLay0 (.str y)) = true
  kept : (RN n).filter (closesGo 3) = KN.map mkS
  lay2 : ((RN n).map (keepP (KN.map mkS))).all (fun y => PyData.canLay0 (.str y)) = true
  same : (!decide ((RN n).map preP = (RN n).map (keepP (KN.map mkS)))) = false
  rep : (KN.map mkS).all (fun y => decide ((Txt.replace y (Str.ofString "(") (Str.ofString "a")).length ≤ 40)) = true
def ofSigns (n : Nat) (l : List Nat) : Bool := l.length == n && l.all fun c => signs.contains c
structure DressOk (n : Nat) (KN KD : List (List Nat)) (b : Bool) : Prop where
  out : KN.map (fun y => dressP (mkS y) b) = KD.map mkS
  sig : KD.all (ofSigns n) = true
structure RowOk (n : Nat) (KN : List (List Nat)) (X ME : List Nat) (T : List Int) : Prop where
  len : X.length = n
  plain : plainB (mkS X) = true
  rep : (Txt.replace (mkS X) (Str.ofString "(") (Str.ofString "a")).length ≤ 40
  turn : turnP (mkS X) = T
  most : T.length ≤ 6
  mend : mendP (mkS X) T = mkS ME
  kept : KN.contains ME = true
  chk : checkP (mkS X) = (T.length == 0)
def farB (n : Nat) (KD : List (List Nat)) (D MD : List Nat) (due : Int) : Bool :=
  KD.all (fun y => decide (due ≤ levF D y (2 * (n : Int)))) && KD.any (fun y => levF D y (2 * (n : Int)) == due) && levF MD D due == due
theorem sig_mem {n : Nat} {l : List Nat} (h : ofSigns n l = true) : l.length = n ∧ ∀ c ∈ l, c ∈ signs := by
  simp only [ofSigns, Bool.and_eq_true, beq_iff_eq, List.all_eq_true, List.contains_iff_mem] at h
  exact h
theorem near_of {n : Nat} {KN KD : List (List Nat)} {X ME D MD : List Nat} {T : List Int} {b : Bool} (S : SizeOk n KN) (K : DressOk n KN KD b) (R : RowOk n KN X ME T)
    (hD : dressP (mkS X) b = mkS D) (hMD : dressP (mkS ME) b = mkS MD) (hs : (ofSigns n D && ofSigns n MD) = true)
    (hfar : farB n KD D MD ((T.length : Int) * (if b = true then 1 else 2)) = true) : NearOk (mkS X) b := by
  have hl : (mkS X).length = n := (mkS_len X).trans R.len
  have hrows : rowsOf (mkS X) = RN n := by rw [rowsOf, hl]; rfl
  have hkept : keptOf (mkS X) = KN.map mkS := by rw [keptOf, hrows, S.kept]
  have hdue : dueP (mkS X) b = (T.length : Int) * (if b = true then 1 else 2) := by rw [dueP, R.turn]
  rw [← hdue] at hfar
  have hdue0 : checkP (mkS X) = (dueP (mkS X) b == 0) := by
    rw [R.chk, hdue]
    cases b <;> cases h : T.length <;> simp <;> omega
  simp only [farB, Bool.and_eq_true] at hfar hs
  obtain ⟨⟨f1, f2⟩, f3⟩ := hfar
  obtain ⟨sD, sM⟩ := hs
  have sD := sig_mem sD
  have sM := sig_mem sM
  have dk : ∀ y ∈ keptOf (mkS X), ∃ z ∈ KD, dressP y b = mkS z ∧ ofSigns n z = true := by
    intro y hy
    rw [hkept] at hy
    obtain ⟨a, ha, rfl⟩ := List.mem_map.mp hy
    have : dressP (mkS a) b ∈ KD.map mkS := by
      rw [← K.out]
      exact List.mem_map_of_mem (f := fun y => dressP (mkS y) b) ha
    obtain ⟨z, hz, e⟩ := List.mem_map.mp this
    exact ⟨z, hz, e.symm, List.all_eq_true.mp K.sig z hz⟩
  have lv : ∀ z, ofSigns n z = true → ∀ m, levP (mkS D) (mkS z) m = levF D z m := fun z hz m => by
    have := sig_mem hz
    exact lev_mk (by omega) sD.2 this.2
  refine
  { len := by rw [hl]; exact S.len
    px := plain_of R.plain
    good := ?_
    few := ?_
    plain := ?_
    lay1 := ?_
    lay2 := ?_
    same := ?_
    rep := ?_
    xrep := R.rep
    xlen := ?_
    alike := ?_
    mend := ?_
    most := ?_
    least := ?_
    hit := ?_
    chk := hdue0
    last := ?_ }
  · rw [hrows]; exact List.all_eq_true.mp S.good
  · rw [hrows]; exact S.few
  · rw [hrows]; exact fun y hy => plain_of (List.all_eq_true.mp S.plain y hy)
  · rw [hrows]; exact List.all_eq_true.mp S.lay1
  · rw [hrows, hkept]; exact List.all_eq_true.mp S.lay2
  · rw [hrows, hkept]; exact S.same
  · rw [hkept]; exact fun y hy => of_decide_eq_true (List.all_eq_true.mp S.rep y hy)
  · have := S.len
    rw [hD, mkS_len, sD.1]; omega
  · intro y hy
    obtain ⟨z, hz, e, sz⟩ := dk y hy
    rw [e, hD, mkS_len, mkS_len, sD.1, (sig_mem sz).1]
  · rw [hkept, R.turn, R.mend]
    refine List.any_eq_true.mpr ⟨mkS ME, List.mem_map_of_mem (List.contains_iff_mem.mp R.kept), beq_self_eq_true _⟩
  · rw [R.turn]; exact R.most
  · intro y hy
    obtain ⟨z, hz, e, sz⟩ := dk y hy
    rw [e, hD, hl, lv z sz]
    exact of_decide_eq_true (List.all_eq_true.mp f1 z hz)
  · obtain ⟨z, hz, e⟩ := List.any_eq_true.mp f2
    have : mkS z ∈ KN.map (fun y => dressP (mkS y) b) := by rw [K.out]; exact List.mem_map_of_mem hz
    obtain ⟨y, hy, ey⟩ := List.mem_map.mp this
    refine ⟨mkS y, by rw [hkept]; exact List.mem_map_of_mem hy, ?_⟩
    rw [ey, hD, hl, lv z (List.all_eq_true.mp K.sig z hz)]
    exact eq_of_beq e
  · rw [R.turn, R.mend, hMD, hD, lev_mk (by omega) sM.2 sD.2]
    exact eq_of_beq f3
def K4n : List (List Nat) := [[40, 40, 41, 41], [40, 41, 40, 41]]
def K4a : List (List Nat) := [[97, 97, 65, 65], [97, 65, 97, 65]]
theorem size4 : SizeOk 4 K4n where
  len := by decide
  good := by decide +kernel
  few := by decide +kernel
  plain := by decide +kernel
  lay1 := by decide +kernel
  kept := by decide +kernel
  lay2 := by decide +kernel
  same := by decide +kernel
  rep := by decide +kernel
theorem dr4t : DressOk 4 K4n K4a true := ⟨by decide +kernel, by decide +kernel⟩
theorem dr4f : DressOk 4 K4n K4n false := ⟨by decide +kernel, by decide +kernel⟩
theorem r4_0 : RowOk 4 K4n [40, 40, 40, 40] [40, 40, 41, 41] [2, 3] := ⟨by decide +kernel, by decide +kernel, by decide +kernel, by decide +kernel, by decide +kernel, by decide +kernel, by decide +kernel, by decide +kernel⟩
theorem n4_0 : ∀ b, NearOk (mkS [40, 40, 40, 40]) b
  | true => near_of size4 dr4t r4_0 (D := [97, 97, 97, 97]) (MD := [97, 97, 65, 65]) (by decide +kernel) (by decide +kernel) (by decide +kernel) (by decide +kernel)
  | false => near_of size4 dr4f r4_0 (D := [40, 40, 40, 40]) (MD := [40, 40, 41, 41]) rfl rfl (by decide +kernel) (by decide +kernel)
theorem r4_1 : RowOk 4 K4n [40, 40, 40, 41] [40, 41, 40, 41] [1] := ⟨by decide +kernel, by decide +kernel, by decide +kernel, by decide +kernel, by decide +kernel, by decide +kernel, by decide +kernel, by decide +kernel⟩
theorem n4_1 : ∀ b, NearOk (mkS [40, 40, 40, 41]) b
  | true => near_of size4 dr4t r4_1 (D := [97, 97, 97, 65]) (MD := [97, 65, 97, 65]) (by decide +kernel) (by decide +kernel) (by decide +kernel) (by decide +kernel)
  | false => near_of size4 dr4f r4_1 (D := [40, 40, 40, 41]) (MD := [40, 41, 40, 41]) rfl rfl (by decide +kernel) (by decide +kernel)
theorem r4_2 : RowOk 4 K4n [40, 40, 41, 40] [40, 40, 41, 41] [3] := ⟨by decide +kernel, by decide +kernel, by decide +kernel, by decide +kernel, by decide +kernel, by decide +kernel, by decide +kernel, by decide +kernel⟩
theorem n4_2 : ∀ b, NearOk (mkS [40, 40, 41, 40]) b
  | true => near_of size4 dr4t r4_2 (D := [97, 97, 65, 97]) (MD := [97, 97, 65, 65]) (by decide +kernel) (by decide +kernel) (by decide +kernel) (by decide +kernel)
  | false => near_of size4 dr4f r4_2 (D := [40, 40, 41, 40]) (MD := [40, 40, 41, 41]) rfl rfl (by decide +kernel) (by decide +kernel)
theorem r4_3 : RowOk 4 K4n [40, 40, 41, 41] [40, 40, 41, 41] [] := ⟨by decide +kernel, by decide +kernel, by decide +kernel, by decide +kernel, by decide +kernel, by decide +kernel, by decide +kernel, by decide +kernel⟩
theorem n4_3 : ∀ b, NearOk (mkS [40, 40, 41, 41]) b
  | true => near_of size4 dr4t r4_3 (D := [97, 97, 65, 65]) (MD := [97, 97, 65, 65]) (by decide +kernel) (by decide +kernel) (by decide +kernel) (by decide +kernel)
  | false => near_of size4 dr4f r4_3 (D := [40, 40, 41, 41]) (MD := [40, 40, 41, 41]) rfl rfl (by decide +kernel) (by decide +kernel)
theorem r4_4 : RowOk 4 K4n [40, 41, 40, 40] [40, 41, 40, 41] [3] := ⟨by decide +kernel, by decide +kernel, by decide +kernel, by decide +kernel, by decide +kernel, by decide +kernel, by decide +kernel, by decide +kernel⟩
theorem n4_4 : ∀ b, NearOk (mkS [40, 41, 40, 40]) b
  | true => near_of size4 dr4t r4_4 (D := [97, 65, 97, 97]) (MD := [97, 65, 97, 65]) (by decide +kernel) (by decide +kernel) (by decide +kernel) (by decide +kernel)
  | false => near_of size4 dr4f r4_4 (D := [40, 41, 40, 40]) (MD := [40, 41, 40, 41]) rfl rfl (by decide +kernel) (by decide +kernel)
theorem r4_5 : RowOk 4 K4n [40, 41, 40, 41] [40, 41, 40, 41] [] := ⟨by decide +kernel, by decide +kernel, by decide +kernel, by decide +kernel, by decide +kernel, by decide +kernel, by decide +kernel, by decide +kernel⟩
theorem n4_5 : ∀ b, NearOk (mkS [40, 41, 40, 41]) b
  | true => near_of size4 dr4t r4_5 (D := [97, 65, 97, 65]) (MD := [97, 65, 97, 65]) (by decide +kernel) (by decide +kernel) (by decide +kernel) (by decide +kernel)
  | false => near_of size4 dr4f r4_5 (D := [40, 41, 40, 41]) (MD := [40, 41, 40, 41]) rfl rfl (by decide +kernel) (by decide +kernel)
theorem r4_6 : RowOk 4 K4n [40, 41, 41, 40] [40, 41, 40, 41] [2, 3] := ⟨by decide +kernel, by decide +kernel, by decide +kernel, by decide +kernel, by decide +kernel, by decide +kernel, by decide +kernel, by decide +kernel⟩
theorem n4_6 : ∀ b, NearOk (mkS [40, 41, 41, 40]) b
  | true => near_of size4 dr4t r4_6 (D := [97, 65, 65, 97]) (MD := [97, 65, 97, 65]) (by decide +kernel) (by decide +kernel) (by decide +kernel) (by decide +kernel)
  | false => near_of size4 dr4f r4_6 (D := [40, 41, 41, 40]) (MD := [40, 41, 40, 41]) rfl rfl (by decide +kernel) (by decide +kernel)
theorem r4_7 : RowOk 4 K4n [40, 41, 41, 41] [40, 41, 40, 41] [2] := ⟨by decide +kernel, by decide +kernel, by decide +kernel, by decide +kernel, by decide +kernel, by decide +kernel, by decide +kernel, by decide +kernel⟩
theorem n4_7 : ∀ b, NearOk (mkS [40, 41, 41, 41]) b
  | true => near_of size4 dr4t r4_7 (D := [97, 65, 65, 65]) (MD := [97, 65, 97, 65]) (by decide +kernel) (by decide +kernel) (by decide +kernel) (by decide +kernel)
  | false => near_of size4 dr4f r4_7 (D := [40, 41, 41, 41]) (MD := [40, 41, 40, 41]) rfl rfl (by decide +kernel) (by decide +kernel)
theorem r4_8 : RowOk 4 K4n [41, 40, 40, 40] [40, 40, 41, 41] [0, 2, 3] := ⟨by decide +kernel, by decide +kernel, by decide +kernel, by decide +kernel, by decide +kernel, by decide +kernel, by decide +kernel, by decide +kernel⟩
theorem n4_8 : ∀ b, NearOk (mkS [41, 40, 40, 40]) b
  | true => near_of size4 dr4t r4_8 (D := [65, 97, 97, 97]) (MD := [97, 97, 65, 65]) (by decide +kernel) (by decide +kernel) (by decide +kernel) (by decide +kernel)
  | false => near_of size4 dr4f r4_8 (D := [41, 40, 40, 40]) (MD := [40, 40, 41, 41]) rfl rfl (by decide +kernel) (by decide +kernel)
theorem r4_9 : RowOk 4 K4n [41, 40, 40, 41] [40, 41, 40, 41] [0, 1] := ⟨by decide +kernel, by decide +kernel, by decide +kernel, by decide +kernel, by decide +kernel, by decide +kernel, by decide +kernel, by decide +kernel⟩
theorem n4_9 : ∀ b, NearOk (mkS [41, 40, 40, 41]) b
  | true => near_of size4 dr4t r4_9 (D := [65, 97, 97, 65]) (MD := [97, 65, 97, 65]) (by decide +kernel) (by decide +kernel) (by decide +kernel) (by decide +kernel)
  | false => near_of size4 dr4f r4_9 (D := [41, 40, 40, 41]) (MD := [40, 41, 40, 41]) rfl rfl (by decide +kernel) (by decide +kernel)
theorem r4_10 : RowOk 4 K4n [41, 40, 41, 40] [40, 40, 41, 41] [0, 3] := ⟨by decide +kernel, by decide +kernel, by decide +kernel, by decide +kernel, by decide +kernel, by decide +kernel, by decide +kernel, by decide +kernel⟩
theorem n4_10 : ∀ b, NearOk (mkS [41, 40, 41, 40]) b
  | true => near_of size4 dr4t r4_10 (D := [65, 97, 65, 97]) (MD := [97, 97, 65, 65]) (by decide +kernel) (by decide +kernel) (by decide +kernel) (by decide +kernel)
  | false => near_of size4 dr4f r4_10 (D := [41, 40, 41, 40]) (MD := [40, 40, 41, 41]) rfl rfl (by decide +kernel) (by decide +kernel)
theorem r4_11 : RowOk 4 K4n [41, 40, 41, 41] [40, 40, 41, 41] [0] := ⟨by decide +kernel, by decide +kernel, by decide +kernel, by decide +kernel, by decide +kernel, by decide +kernel, by decide +kernel, by decide +kernel⟩
theorem n4_11 : ∀ b, NearOk (mkS [41, 40, 41, 41]) b
  | true => near_of size4 dr4t r4_11 (D := [65, 97, 65, 65]) (MD := [97, 97, 65, 65]) (by decide +kernel) (by decide +kernel) (by decide +kernel) (by decide +kernel)
  | false => near_of size4 dr4f r4_11 (D := [41, 40, 41, 41]) (MD := [40, 40, 41, 41]) rfl rfl (by decide +kernel) (by decide +kernel)
theorem r4_12 : RowOk 4 K4n [41, 41, 40, 40] [40, 41, 40, 41] [0, 3] := ⟨by decide +kernel, by decide +kernel, by decide +kernel, by decide +kernel, by decide +kernel, by decide +kernel, by decide +kernel, by decide +kernel⟩
theorem n4_12 : ∀ b, NearOk (mkS [41, 41, 40, 40]) b
  | true => near_of size4 dr4t r4_12 (D := [65, 65, 97, 97]) (MD := [97, 65, 97, 65]) (by decide +kernel) (by decide +kernel) (by decide +kernel) (by decide +kernel)
  | false => near_of size4 dr4f r4_12 (D := [41, 41, 40, 40]) (MD := [40, 41, 40, 41]) rfl rfl (by decide +kernel) (by decide +kernel)
theorem r4_13 : RowOk 4 K4n [41, 41, 40, 41] [40, 41, 40, 41] [0] := ⟨by decide +kernel, by decide +kernel, by decide +kernel, by decide +kernel, by decide +kernel, by decide +kernel, by decide +kernel, by decide +kernel⟩
theorem n4_13 : ∀ b, NearOk (mkS [41, 41, 40, 41]) b
  | true => near_of size4 dr4t r4_13 (D := [65, 65, 97, 65]) (MD := [97, 65, 97, 65]) (by decide +kernel) (by decide +kernel) (by decide +kernel) (by decide +kernel)
  | false => near_of size4 dr4f r4_13 (D := [41, 41, 40, 41]) (MD := [40, 41, 40, 41]) rfl rfl (by decide +kernel) (by decide +kernel)
theorem r4_14 : RowOk 4 K4n [41, 41, 41, 40] [40, 40, 41, 41] [0, 1, 3] := ⟨by decide +kernel, by decide +kernel, by decide +kernel, by decide +kernel, by decide +kernel, by decide +kernel, by decide +kernel, by decide +kernel⟩
theorem n4_14 : ∀ b, NearOk (mkS [41, 41, 41, 40]) b
  | true => near_of size4 dr4t r4_14 (D := [65, 65, 65, 97]) (MD := [97, 97, 65, 65]) (by decide +kernel) (by decide +kernel) (by decide +kernel) (by decide +kernel)
  | false => near_of size4 dr4f r4_14 (D := [41, 41, 41, 40]) (MD := [40, 40, 41, 41]) rfl rfl (by decide +kernel) (by decide +kernel)
theorem r4_15 : RowOk 4 K4n [41, 41, 41, 41] [40, 40, 41, 41] [0, 1] := ⟨by decide +kernel, by decide +kernel, by decide +kernel, by decide +kernel, by decide +kernel, by decide +kernel, by decide +kernel, by decide +kernel⟩
theorem n4_15 : ∀ b, NearOk (mkS [41, 41, 41, 41]) b
  | true => near_of size4 dr4t r4_15 (D := [65, 65, 65, 65]) (MD := [97, 97, 65, 65]) (by decide +kernel) (by decide +kernel) (by decide +kernel) (by decide +kernel)
  | false => near_of size4 dr4f r4_15 (D := [41, 41, 41, 41]) (MD := [40, 40, 41, 41]) rfl rfl (by decide +kernel) (by decide +kernel)
theorem all4 : ∀ l ∈ [[40, 40, 40, 40], [40, 40, 40, 41], [40, 40, 41, 40], [40, 40, 41, 41], [40, 41, 40, 40], [40, 41, 40, 41], [40, 41, 41, 40], [40, 41, 41, 41], [41, 40, 40, 40], [41, 40, 40, 41], [41, 40, 41, 40], [41, 40, 41, 41], [41, 41, 40, 40], [41, 41, 40, 41], [41, 41, 41, 40], [41, 41, 41, 41]], ∀ b, NearOk (mkS l) b :=
  fac n4_0 ( fac n4_1 ( fac n4_2 ( fac n4_3 ( fac n4_4 ( fac n4_5 ( fac n4_6 ( fac n4_7 ( fac n4_8 ( fac n4_9 ( fac n4_10 ( fac n4_11 ( fac n4_12 ( fac n4_13 ( fac n4_14 ( fac n4_15 (fa0))))))))))))))))
def K6n : List (List Nat) := [[40, 40, 40, 41, 41, 41], [40, 40, 41, 40, 41, 41], [40, 40, 41, 41, 40, 41], [40, 41, 40, 40, 41, 41], [40, 41, 40, 41, 40, 41]]
def K6a : List (List Nat) := [[97, 97, 97, 65, 65, 65], [97, 97, 65, 97, 65, 65], [97, 97, 65, 65, 97, 65], [97, 65, 97, 97, 65, 65], [97, 65, 97, 65, 97, 65]]
theorem size6 : SizeOk 6 K6n where
  len := by decide
  good := by decide +kernel
  few := by decide +kernel
  plain := by decide +kernel
  lay1 := by decide +kernel
  kept := by decide +kernel
  lay2 := by decide +kernel
  same := by decide +kernel
  rep := by decide +kernel
theorem dr6t : DressOk 6 K6n K6a true := ⟨by decide +kernel, by decide +kernel⟩
theorem dr6f : DressOk 6 K6n K6n false := ⟨by decide +kernel, by decide +kernel⟩
theorem r6_0 : RowOk 6 K6n [40, 40, 40, 40, 40, 40] [40, 40, 40, 41, 41, 41] [3, 4, 5] := ⟨by decide +kernel, by decide +kernel, by decide +kernel, by decide +kernel, by decide +kernel, by decide +kernel, by decide +kernel, by decide +kernel⟩
theorem n6_0 : ∀ b, NearOk (mkS [40, 40, 40, 40, 40, 40]) b
  | true => near_of size6 dr6t r6_0 (D := [97, 97, 97, 97, 97, 97]) (MD := [97, 97, 97, 65, 65, 65]) (by decide +kernel) (by decide +kernel) (by decide +kernel) (by decide +kernel)
  | false => near_of size6 dr6f r6_0 (D := [40, 40, 40, 40, 40, 40]) (MD := [40, 40, 40, 41, 41, 41]) rfl rfl (by decide +kernel) (by decide +kernel)
theorem r6_1 : RowOk 6 K6n [40, 40, 40, 40, 40, 41] [40, 40, 41, 41, 40, 41] [2, 3] := ⟨by decide +kernel, by decide +kernel, by decide +kernel, by decide +kernel, by decide +kernel, by decide +kernel, by decide +kernel, by decide +kernel⟩
theorem n6_1 : ∀ b, NearOk (mkS [40, 40, 40, 40, 40, 41]) b
  | true => near_of size6 dr6t r6_1 (D := [97, 97, 97, 97, 97, 65]) (MD := [97, 97, 65, 65, 97, 65]) (by decide +kernel) (by decide +kernel) (by decide +kernel) (by decide +kernel)
  | false => near_of size6 dr6f r6_1 (D := [40, 40, 40, 40, 40, 41]) (MD := [40, 40, 41, 41, 40, 41]) rfl rfl (by decide +kernel) (by decide +kernel)
theorem r6_2 : RowOk 6 K6n [40, 40, 40, 40, 41, 40] [40, 40, 41, 40, 41, 41] [2, 5] := ⟨by decide +kernel, by decide +kernel, by decide +kernel, by decide +kernel, by decide +kernel, by decide +kernel, by decide +kernel, by decide +kernel⟩
theorem n6_2 : ∀ b, NearOk (mkS [40, 40, 40, 40, 41, 40]) b
  | true => near_of size6 dr6t r6_2 (D := [97, 97, 97, 97, 65, 97]) (MD := [97, 97, 65, 97, 65, 65]) (by decide +kernel) (by decide +kernel) (by decide +kernel) (by decide +kernel)
  | false => near_of size6 dr6f r6_2 (D := [40, 40, 40, 40, 41, 40]) (MD := [40, 40, 41, 40, 41, 41]) rfl rfl (by decide +kernel) (by decide +kernel)
theorem r6_3 : RowOk 6 K6n [40, 40, 40, 40, 41, 41] [40, 41, 40, 40, 41, 41] [1] := ⟨by decide +kernel, by decide +kernel, by decide +kernel, by decide +kernel, by decide +kernel, by decide +kernel, by decide +kernel, by decide +kernel⟩
theorem n6_3 : ∀ b, NearOk (mkS [40, 40, 40, 40, 41, 41]) b
  | true => near_of size6 dr6t r6_3 (D := [97, 97, 97, 97, 65, 65]) (MD := [97, 65, 97, 97, 65, 65]) (by decide +kernel) (by decide +kernel) (by decide +kernel) (by decide +kernel)
  | false => near_of size6 dr6f r6_3 (D := [40, 40, 40, 40, 41, 41]) (MD := [40, 41, 40, 40, 41, 41]) rfl rfl (by decide +kernel) (by decide +kernel)
theorem r6_4 : RowOk 6 K6n [40, 40, 40, 41, 40, 40] [40, 40, 40, 41, 41, 41] [4, 5] := ⟨by decide +kernel, by decide +kernel, by decide +kernel, by decide +kernel, by decide +kernel, by decide +kernel, by decide +kernel, by decide +kernel⟩
theorem n6_4 : ∀ b, NearOk (mkS [40, 40, 40, 41, 40, 40]) b
  | true => near_of size6 dr6t r6_4 (D := [97, 97, 97, 65, 97, 97]) (MD := [97, 97, 97, 65, 65, 65]) (by decide +kernel) (by decide +kernel) (by decide +kernel) (by decide +kernel)
  | false => near_of size6 dr6f r6_4 (D := [40, 40, 40, 41, 40, 40]) (MD := [40, 40, 40, 41, 41, 41]) rfl rfl (by decide +kernel) (by decide +kernel)
theorem r6_5 : RowOk 6 K6n [40, 40, 40, 41, 40, 41] [40, 41, 40, 41, 40, 41] [1] := ⟨by decide +kernel, by decide +kernel, by decide +kernel, by decide +kernel, by decide +kernel, by decide +kernel, by decide +kernel, by decide +kernel⟩
theorem n6_5 : ∀ b, NearOk (mkS [40, 40, 40, 41, 40, 41]) b
  | true => near_of size6 dr6t r6_5 (D := [97, 97, 97, 65, 97, 65]) (MD := [97, 65, 97, 65, 97, 65]) (by decide +kernel) (by decide +kernel) (by decide +kernel) (by decide +kernel)
  | false => near_of size6 dr6f r6_5 (D := [40, 40, 40, 41, 40, 41]) (MD := [40, 41, 40, 41, 40, 41]) rfl rfl (by decide +kernel) (by decide +kernel)
theorem r6_6 : RowOk 6 K6n [40, 40, 40, 41, 41, 40] [40, 40, 40, 41, 41, 41] [5] := ⟨by decide +kernel, by decide +kernel, by decide +kernel, by decide +kernel, by decide +kernel, by decide +kernel, by decide +kernel, by decide +kernel⟩
theorem n6_6 : ∀ b, NearOk (mkS [40, 40, 40, 41, 41, 40]) b
  | true => near_of size6 dr6t r6_6 (D := [97, 97, 97, 65, 65, 97]) (MD := [97, 97, 97, 65, 65, 65]) (by decide +kernel) (by decide +kernel) (by decide +kernel) (by decide +kernel)
  | false => near_of size6 dr6f r6_6 (D := [40, 40, 40, 41, 41, 40]) (MD := [40, 40, 40, 41, 41, 41]) rfl rfl (by decide +kernel) (by decide +kernel)
theorem r6_7 : RowOk 6 K6n [40, 40, 40, 41, 41, 41] [40, 40, 40, 41, 41, 41] [] := ⟨by decide +kernel, by decide +kernel, by decide +kernel, by decide +kernel, by decide +kernel, by decide +kernel, by decide +kernel, by decide +kernel⟩
theorem n6_7 : ∀ b, NearOk (mkS [40, 40, 40, 41, 41, 41]) b
  | true => near_of size6 dr6t r6_7 (D := [97, 97, 97, 65, 65, 65]) (MD := [97, 97, 97, 65, 65, 65]) (by decide +kernel) (by decide +kernel) (by decide +kernel) (by decide +kernel)
  | false => near_of size6 dr6f r6_7 (D := [40, 40, 40, 41, 41, 41]) (MD := [40, 40, 40, 41, 41, 41]) rfl rfl (by decide +kernel) (by decide +kernel)
theorem r6_8 : RowOk 6 K6n [40, 40, 41, 40, 40, 40] [40, 40, 41, 40, 41, 41] [4, 5] := ⟨by decide +kernel, by decide +kernel, by decide +kernel, by decide +kernel, by decide +kernel, by decide +kernel, by decide +kernel, by decide +kernel⟩
theorem n6_8 : ∀ b, NearOk (mkS [40, 40, 41, 40, 40, 40]) b
  | true => near_of size6 dr6t r6_8 (D := [97, 97, 65, 97, 97, 97]) (MD := [97, 97, 65, 97, 65, 65]) (by decide +kernel) (by decide +kernel) (by decide +kernel) (by decide +kernel)
  | false => near_of size6 dr6f r6_8 (D := [40, 40, 41, 40, 40, 40]) (MD := [40, 40, 41, 40, 41, 41]) rfl rfl (by decide +kernel) (by decide +kernel)
theorem r6_9 : RowOk 6 K6n [40, 40, 41, 40, 40, 41] [40, 40, 41, 41, 40, 41] [3] := ⟨by decide +kernel, by decide +kernel, by decide +kernel, by decide +kernel, by decide +kernel, by decide +kernel, by decide +kernel, by decide +kernel⟩
theorem n6_9 : ∀ b, NearOk (mkS [40, 40, 41, 40, 40, 41]) b
  | true => near_of size6 dr6t r6_9 (D := [97, 97, 65, 97, 97, 65]) (MD := [97, 97, 65, 65, 97, 65]) (by decide +kernel) (by decide +kernel) (by decide +kernel) (by decide +kernel)
  | false => near_of size6 dr6f r6_9 (D := [40, 40, 41, 40, 40, 41]) (MD := [40, 40, 41, 41, 40, 41]) rfl rfl (by decide +kernel) (by decide +kernel)
theorem r6_10 : RowOk 6 K6n [40, 40, 41, 40, 41, 40] [40, 40, 41, 40, 41, 41] [5] := ⟨by decide +kernel, by decide +kernel, by decide +kernel, by decide +kernel, by decide +kernel, by decide +kernel, by decide +kernel, by decide +kernel⟩
theorem n6_10 : ∀ b, NearOk (mkS [40, 40, 41, 40, 41, 40]) b
  | true => near_of size6 dr6t r6_10 (D := [97, 97, 65, 97, 65, 97]) (MD := [97, 97, 65, 97, 65, 65]) (by decide +kernel) (by decide +kernel) (by decide +kernel) (by decide +kernel)
  | false => near_of size6 dr6f r6_10 (D := [40, 40, 41, 40, 41, 40]) (MD := [40, 40, 41, 40, 41, 41]) rfl rfl (by decide +kernel) (by decide +kernel)
theorem r6_11 : RowOk 6 K6n [40, 40, 41, 40, 41, 41] [40, 40, 41, 40, 41, 41] [] := ⟨by decide +kernel, by decide +kernel, by decide +kernel, by decide +kernel, by decide +kernel, by decide +kernel, by decide +kernel, by decide +kernel⟩
theorem n6_11 : ∀ b, NearOk (mkS [40, 40, 41, 40, 41, 41]) b
  | true => near_of size6 dr6t r6_11 (D := [97, 97, 65, 97, 65, 65]) (MD := [97, 97, 65, 97, 65, 65]) (by decide +kernel) (by decide +kernel) (by decide +kernel) (by decide +kernel)
  | false => near_of size6 dr6f r6_11 (D := [40, 40, 41, 40, 41, 41]) (MD := [40, 40, 41, 40, 41, 41]) rfl rfl (by decide +kernel) (by decide +kernel)
theorem r6_12 : RowOk 6 K6n [40, 40, 41, 41, 40, 40] [40, 40, 41, 41, 40, 41] [5] := ⟨by decide +kernel, by decide +kernel, by decide +kernel, by decide +kernel, by decide +kernel, by decide +kernel, by decide +kernel, by decide +kernel⟩
theorem n6_12 : ∀ b, NearOk (mkS [40, 40, 41, 41, 40, 40]) b
  | true => near_of size6 dr6t r6_12 (D := [97, 97, 65, 65, 97, 97]) (MD := [97, 97, 65, 65, 97, 65]) (by decide +kernel) (by decide +kernel) (by decide +kernel) (by decide +kernel)
  | false => near_of size6 dr6f r6_12 (D := [40, 40, 41, 41, 40, 40]) (MD := [40, 40, 41, 41, 40, 41]) rfl rfl (by decide +kernel) (by decide +kernel)
theorem r6_13 : RowOk 6 K6n [40, 40, 41, 41, 40, 41] [40, 40, 41, 41, 40, 41] [] := ⟨by decide +kernel, by decide +kernel, by decide +kernel, by decide +kernel, by decide +kernel, by decide +kernel, by decide +kernel, by decide +kernel⟩
theorem n6_13 : ∀ b, NearOk (mkS [40, 40, 41, 41, 40, 41]) b
  | true => near_of size6 dr6t r6_13 (D := [97, 97, 65, 65, 97, 65]) (MD := [97, 97, 65, 65, 97, 65]) (by decide +kernel) (by decide +kernel) (by decide +kernel) (by decide +kernel)
  | false => near_of size6 dr6f r6_13 (D := [40, 40, 41, 41, 40, 41]) (MD := [40, 40, 41, 41, 40, 41]) rfl rfl (by decide +kernel) (by decide +kernel)
theorem r6_14 : RowOk 6 K6n [40, 40, 41, 41, 41, 40] [40, 40, 41, 41, 40, 41] [4, 5] := ⟨by decide +kernel, by decide +kernel, by decide +kernel, by decide +kernel, by decide +kernel, by decide +kernel, by decide +kernel, by decide +kernel⟩
theorem n6_14 : ∀ b, NearOk (mkS [40, 40, 41, 41, 41, 40]) b
  | true => near_of size6 dr6t r6_14 (D := [97, 97, 65, 65, 65, 97]) (MD := [97, 97, 65, 65, 97, 65]) (by decide +kernel) (by decide +kernel) (by decide +kernel) (by decide +kernel)
  | false => near_of size6 dr6f r6_14 (D := [40, 40, 41, 41, 41, 40]) (MD := [40, 40, 41, 41, 40, 41]) rfl rfl (by decide +kernel) (by decide +kernel)
theorem r6_15 : RowOk 6 K6n [40, 40, 41, 41, 41, 41] [40, 40, 41, 41, 40, 41] [4] := ⟨by decide +kernel, by decide +kernel, by decide +kernel, by decide +kernel, by decide +kernel, by decide +kernel, by decide +kernel, by decide +kernel⟩
theorem n6_15 : ∀ b, NearOk (mkS [40, 40, 41, 41, 41, 41]) b
  | true => near_of size6 dr6t r6_15 (D := [97, 97, 65, 65, 65, 65]) (MD := [97, 97, 65, 65, 97, 65]) (by decide +kernel) (by decide +kernel) (by decide +kernel) (by decide +kernel)
  | false => near_of size6 dr6f r6_15 (D := [40, 40, 41, 41, 41, 41]) (MD := [40, 40, 41, 41, 40, 41]) rfl rfl (by decide +kernel) (by decide +kernel)
theorem r6_16 : RowOk 6 K6n [40, 41, 40, 40, 40, 40] [40, 41, 40, 40, 41, 41] [4, 5] := ⟨by decide +kernel, by decide +kernel, by decide +kernel, by decide +kernel, by decide +kernel, by decide +kernel, by decide +kernel, by decide +kernel⟩
theorem n6_16 : ∀ b, NearOk (mkS [40, 41, 40, 40, 40, 40]) b
  | true => near_of size6 dr6t r6_16 (D := [97, 65, 97, 97, 97, 97]) (MD := [97, 65, 97, 97, 65, 65]) (by decide +kernel) (by decide +kernel) (by decide +kernel) (by decide +kernel)
  | false => near_of size6 dr6f r6_16 (D := [40, 41, 40, 40, 40, 40]) (MD := [40, 41, 40, 40, 41, 41]) rfl rfl (by decide +kernel) (by decide +kernel)
theorem r6_17 : RowOk 6 K6n [40, 41, 40, 40, 40, 41] [40, 41, 40, 41, 40, 41] [3] := ⟨by decide +kernel, by decide +kernel, by decide +kernel, by decide +kernel, by decide +kernel, by decide +kernel, by decide +kernel, by decide +kernel⟩
theorem n6_17 : ∀ b, NearOk (mkS [40, 41, 40, 40, 40, 41]) b
  | true => near_of size6 dr6t r6_17 (D := [97, 65, 97, 97, 97, 65]) (MD := [97, 65, 97, 65, 97, 65]) (by decide +kernel) (by decide +kernel) (by decide +kernel) (by decide +kernel)
  | false => near_of size6 dr6f r6_17 (D := [40, 41, 40, 40, 40, 41]) (MD := [40, 41, 40, 41, 40, 41]) rfl rfl (by decide +kernel) (by decide +kernel)
theorem r6_18 : RowOk 6 K6n [40, 41, 40, 40, 41, 40] [40, 41, 40, 40, 41, 41] [5] := ⟨by decide +kernel, by decide +kernel, by decide +kernel, by decide +kernel, by decide +kernel, by decide +kernel, by decide +kernel, by decide +kernel⟩
theorem n6_18 : ∀ b, NearOk (mkS [40, 41, 40, 40, 41, 40]) b
  | true => near_of size6 dr6t r6_18 (D := [97, 65, 97, 97, 65, 97]) (MD := [97, 65, 97, 97, 65, 65]) (by decide +kernel) (by decide +kernel) (by decide +kernel) (by decide +kernel)
  | false => near_of size6 dr6f r6_18 (D := [40, 41, 40, 40, 41, 40]) (MD := [40, 41, 40, 40, 41, 41]) rfl rfl (by decide +kernel) (by decide +kernel)
theorem r6_19 : RowOk 6 K6n [40, 41, 40, 40, 41, 41] [40, 41, 40, 40, 41, 41] [] := ⟨by decide +kernel, by decide +kernel, by decide +kernel, by decide +kernel, by decide +kernel, by decide +kernel, by decide +kernel, by decide +kernel⟩
theorem n6_19 : ∀ b, NearOk (mkS [40, 41, 40, 40, 41, 41]) b
  | true => near_of size6 dr6t r6_19 (D := [97, 65, 97, 97, 65, 65]) (MD := [97, 65, 97, 97, 65, 65]) (by decide +kernel) (by decide +kernel) (by decide +kernel) (by decide +kernel)
  | false => near_of size6 dr6f r6_19 (D := [40, 41, 40, 40, 41, 41]) (MD := [40, 41, 40, 40, 41, 41]) rfl rfl (by decide +kernel) (by decide +kernel)
theorem r6_20 : RowOk 6 K6n [40, 41, 40, 41, 40, 40] [40, 41, 40, 41, 40, 41] [5] := ⟨by decide +kernel, by decide +kernel, by decide +kernel, by decide +kernel, by decide +kernel, by decide +kernel, by decide +kernel, by decide +kernel⟩
theorem n6_20 : ∀ b, NearOk (mkS [40, 41, 40, 41, 40, 40]) b
  | true => near_of size6 dr6t r6_20 (D := [97, 65, 97, 65, 97, 97]) (MD := [97, 65, 97, 65, 97, 65]) (by decide +kernel) (by decide +kernel) (by decide +kernel) (by decide +kernel)
  | false => near_of size6 dr6f r6_20 (D := [40, 41, 40, 41, 40, 40]) (MD := [40, 41, 40, 41, 40, 41]) rfl rfl (by decide +kernel) (by decide +kernel)
theorem r6_21 : RowOk 6 K6n [40, 41, 40, 41, 40, 41] [40, 41, 40, 41, 40, 41] [] := ⟨by decide +kernel, by decide +kernel, by decide +kernel, by decide +kernel, by decide +kernel, by decide +kernel, by decide +kernel, by decide +kernel⟩
theorem n6_21 : ∀ b, NearOk (mkS [40, 41, 40, 41, 40, 41]) b
  | true => near_of size6 dr6t r6_21 (D := [97, 65, 97, 65, 97, 65]) (MD := [97, 65, 97, 65, 97, 65]) (by decide +kernel) (by decide +kernel) (by decide +kernel) (by decide +kernel)
  | false => near_of size6 dr6f r6_21 (D := [40, 41, 40, 41, 40, 41]) (MD := [40, 41, 40, 41, 40, 41]) rfl rfl (by decide +kernel) (by decide +kernel)
theorem r6_22 : RowOk 6 K6n [40, 41, 40, 41, 41, 40] [40, 41, 40, 41, 40, 41] [4, 5] := ⟨by decide +kernel, by decide +kernel, by decide +kernel, by decide +kernel, by decide +kernel, by decide +kernel, by decide +kernel, by decide +kernel⟩
theorem n6_22 : ∀ b, NearOk (mkS [40, 41, 40, 41, 41, 40]) b
  | true => near_of size6 dr6t r6_22 (D := [97, 65, 97, 65, 65, 97]) (MD := [97, 65, 97, 65, 97, 65]) (by decide +kernel) (by decide +kernel) (by decide +kernel) (by decide +kernel)
  | false => near_of size6 dr6f r6_22 (D := [40, 41, 40, 41, 41, 40]) (MD := [40, 41, 40, 41, 40, 41]) rfl rfl (by decide +kernel) (by decide +kernel)
theorem r6_23 : RowOk 6 K6n [40, 41, 40, 41, 41, 41] [40, 41, 40, 41, 40, 41] [4] := ⟨by decide +kernel, by decide +kernel, by decide +kernel, by decide +kernel, by decide +kernel, by decide +kernel, by decide +kernel, by decide +kernel⟩
theorem n6_23 : ∀ b, NearOk (mkS [40, 41, 40, 41, 41, 41]) b
  | true => near_of size6 dr6t r6_23 (D := [97, 65, 97, 65, 65, 65]) (MD := [97, 65, 97, 65, 97, 65]) (by decide +kernel) (by decide +kernel) (by decide +kernel) (by decide +kernel)
  | false => near_of size6 dr6f r6_23 (D := [40, 41, 40, 41, 41, 41]) (MD := [40, 41, 40, 41, 40, 41]) rfl rfl (by decide +kernel) (by decide +kernel)
theorem r6_24 : RowOk 6 K6n [40, 41, 41, 40, 40, 40] [40, 41, 40, 40, 41, 41] [2, 4, 5] := ⟨by decide +kernel, by decide +kernel, by decide +kernel, by decide +kernel, by decide +kernel, by decide +kernel, by decide +kernel, by decide +kernel⟩
theorem n6_24 : ∀ b, NearOk (mkS [40, 41, 41, 40, 40, 40]) b
  | true => near_of size6 dr6t r6_24 (D := [97, 65, 65, 97, 97, 97]) (MD := [97, 65, 97, 97, 65, 65]) (by decide +kernel) (by decide +kernel) (by decide +kernel) (by decide +kernel)
  | false => near_of size6 dr6f r6_24 (D := [40, 41, 41, 40, 40, 40]) (MD := [40, 41, 40, 40, 41, 41]) rfl rfl (by decide +kernel) (by decide +kernel)
theorem r6_25 : RowOk 6 K6n [40, 41, 41, 40, 40, 41] [40, 41, 40, 41, 40, 41] [2, 3] := ⟨by decide +kernel, by decide +kernel, by decide +kernel, by decide +kernel, by decide +kernel, by decide +kernel, by decide +kernel, by decide +kernel⟩
theorem n6_25 : ∀ b, NearOk (mkS [40, 41, 41, 40, 40, 41]) b
  | true => near_of size6 dr6t r6_25 (D := [97, 65, 65, 97, 97, 65]) (MD := [97, 65, 97, 65, 97, 65]) (by decide +kernel) (by decide +kernel) (by decide +kernel) (by decide +kernel)
  | false => near_of size6 dr6f r6_25 (D := [40, 41, 41, 40, 40, 41]) (MD := [40, 41, 40, 41, 40, 41]) rfl rfl (by decide +kernel) (by decide +kernel)
theorem r6_26 : RowOk 6 K6n [40, 41, 41, 40, 41, 40] [40, 41, 40, 40, 41, 41] [2, 5] := ⟨by decide +kernel, by decide +kernel, by decide +kernel, by decide +kernel, by decide +kernel, by decide +kernel, by decide +kernel, by decide +kernel⟩
theorem n6_26 : ∀ b, NearOk (mkS [40, 41, 41, 40, 41, 40]) b
  | true => near_of size6 dr6t r6_26 (D := [97, 65, 65, 97, 65, 97]) (MD := [97, 65, 97, 97, 65, 65]) (by decide +kernel) (by decide +kernel) (by decide +kernel) (by decide +kernel)
  | false => near_of size6 dr6f r6_26 (D := [40, 41, 41, 40, 41, 40]) (MD := [40, 41, 40, 40, 41, 41]) rfl rfl (by decide +kernel) (by decide +kernel)
theorem r6_27 : RowOk 6 K6n [40, 41, 41, 40, 41, 41] [40, 41, 40, 40, 41, 41] [2] := ⟨by decide +kernel, by decide +kernel, by decide +kernel, by decide +kernel, by decide +kernel, by decide +kernel, by decide +kernel, by decide +kernel⟩
theorem n6_27 : ∀ b, NearOk (mkS [40, 41, 41, 40, 41, 41]) b
  | true => near_of size6 dr6t r6_27 (D := [97, 65, 65, 97, 65, 65]) (MD := [97, 65, 97, 97, 65, 65]) (by decide +kernel) (by decide +kernel) (by decide +kernel) (by decide +kernel)
  | false => near_of size6 dr6f r6_27 (D := [40, 41, 41, 40, 41, 41]) (MD := [40, 41, 40, 40, 41, 41]) rfl rfl (by decide +kernel) (by decide +kernel)
theorem r6_28 : RowOk 6 K6n [40, 41, 41, 41, 40, 40] [40, 41, 40, 41, 40, 41] [2, 5] := ⟨by decide +kernel, by decide +kernel, by decide +kernel, by decide +kernel, by decide +kernel, by decide +kernel, by decide +kernel, by decide +kernel⟩
theorem n6_28 : ∀ b, NearOk (mkS [40, 41, 41, 41, 40, 40]) b
  | true => near_of size6 dr6t r6_28 (D := [97, 65, 65, 65, 97, 97]) (MD := [97, 65, 97, 65, 97, 65]) (by decide +kernel) (by decide +kernel) (by decide +kernel) (by decide +kernel)
  | false => near_of size6 dr6f r6_28 (D := [40, 41, 41, 41, 40, 40]) (MD := [40, 41, 40, 41, 40, 41]) rfl rfl (by decide +kernel) (by decide +kernel)
theorem r6_29 : RowOk 6 K6n [40, 41, 41, 41, 40, 41] [40, 41, 40, 41, 40, 41] [2] := ⟨by decide +kernel, by decide +kernel, by decide +kernel, by decide +kernel, by decide +kernel, by decide +kernel, by decide +kernel, by decide +kernel⟩
theorem n6_29 : ∀ b, NearOk (mkS [40, 41, 41, 41, 40, 41]) b
  | true => near_of size6 dr6t r6_29 (D := [97, 65, 65, 65, 97, 65]) (MD := [97, 65, 97, 65, 97, 65]) (by decide +kernel) (by decide +kernel) (by decide +kernel) (by decide +kernel)
  | false => near_of size6 dr6f r6_29 (D := [40, 41, 41, 41, 40, 41]) (MD := [40, 41, 40, 41, 40, 41]) rfl rfl (by decide +kernel) (by decide +kernel)
theorem r6_30 : RowOk 6 K6n [40, 41, 41, 41, 41, 40] [40, 41, 40, 40, 41, 41] [2, 3, 5] := ⟨by decide +kernel, by decide +kernel, by decide +kernel, by decide +kernel, by decide +kernel, by decide +kernel, by decide +kernel, by decide +kernel⟩
theorem n6_30 : ∀ b, NearOk (mkS [40, 41, 41, 41, 41, 40]) b
  | true => near_of size6 dr6t r6_30 (D := [97, 65, 65, 65, 65, 97]) (MD := [97, 65, 97, 97, 65, 65]) (by decide +kernel) (by decide +kernel) (by decide +kernel) (by decide +kernel)
  | false => near_of size6 dr6f r6_30 (D := [40, 41, 41, 41, 41, 40]) (MD := [40, 41, 40, 40, 41, 41]) rfl rfl (by decide +kernel) (by decide +kernel)
theorem r6_31 : RowOk 6 K6n [40, 41, 41, 41, 41, 41] [40, 41, 40, 40, 41, 41] [2, 3] := ⟨by decide +kernel, by decide +kernel, by decide +kernel, by decide +kernel, by decide +kernel, by decide +kernel, by decide +kernel, by decide +kernel⟩
theorem n6_31 : ∀ b, NearOk (mkS [40, 41, 41, 41, 41, 41]) b
  | true => near_of size6 dr6t r6_31 (D := [97, 65, 65, 65, 65, 65]) (MD := [97, 65, 97, 97, 65, 65]) (by decide +kernel) (by decide +kernel) (by decide +kernel) (by decide +kernel)
  | false => near_of size6 dr6f r6_31 (D := [40, 41, 41, 41, 41, 41]) (MD := [40, 41, 40, 40, 41, 41]) rfl rfl (by decide +kernel) (by decide +kernel)
theorem r6_32 : RowOk 6 K6n [41, 40, 40, 40, 40, 40] [40, 40, 40, 41, 41, 41] [0, 3, 4, 5] := ⟨by decide +kernel, by decide +kernel, by decide +kernel, by decide +kernel, by decide +kernel, by decide +kernel, by decide +kernel, by decide +kernel⟩
theorem n6_32 : ∀ b, NearOk (mkS [41, 40, 40, 40, 40, 40]) b
  | true => near_of size6 dr6t r6_32 (D := [65, 97, 97, 97, 97, 97]) (MD := [97, 97, 97, 65, 65, 65]) (by decide +kernel) (by decide +kernel) (by decide +kernel) (by decide +kernel)
  | false => near_of size6 dr6f r6_32 (D := [41, 40, 40, 40, 40, 40]) (MD := [40, 40, 40, 41, 41, 41]) rfl rfl (by decide +kernel) (by decide +kernel)
theorem r6_33 : RowOk 6 K6n [41, 40, 40, 40, 40, 41] [40, 40, 41, 41, 40, 41] [0, 2, 3] := ⟨by decide +kernel, by decide +kernel, by decide +kernel, by decide +kernel, by decide +kernel, by decide +kernel, by decide +kernel, by decide +kernel⟩
theorem n6_33 : ∀ b, NearOk (mkS [41, 40, 40, 40, 40, 41]) b
  | true => near_of size6 dr6t r6_33 (D := [65, 97, 97, 97, 97, 65]) (MD := [97, 97, 65, 65, 97, 65]) (by decide +kernel) (by decide +kernel) (by decide +kernel) (by decide +kernel)
  | false => near_of size6 dr6f r6_33 (D := [41, 40, 40, 40, 40, 41]) (MD := [40, 40, 41, 41, 40, 41]) rfl rfl (by decide +kernel) (by decide +kernel)
theorem r6_34 : RowOk 6 K6n [41, 40, 40, 40, 41, 40] [40, 40, 41, 40, 41, 41] [0, 2, 5] := ⟨by decide +kernel, by decide +kernel, by decide +kernel, by decide +kernel, by decide +kernel, by decide +kernel, by decide +kernel, by decide +kernel⟩
theorem n6_34 : ∀ b, NearOk (mkS [41, 40, 40, 40, 41, 40]) b
  | true => near_of size6 dr6t r6_34 (D := [65, 97, 97, 97, 65, 97]) (MD := [97, 97, 65, 97, 65, 65]) (by decide +kernel) (by decide +kernel) (by decide +kernel) (by decide +kernel)
  | false => near_of size6 dr6f r6_34 (D := [41, 40, 40, 40, 41, 40]) (MD := [40, 40, 41, 40, 41, 41]) rfl rfl (by decide +kernel) (by decide +kernel)
theorem r6_35 : RowOk 6 K6n [41, 40, 40, 40, 41, 41] [40, 41, 40, 40, 41, 41] [0, 1] := ⟨by decide +kernel, by decide +kernel, by decide +kernel, by decide +kernel, by decide +kernel, by decide +kernel, by decide +kernel, by decide +kernel⟩
theorem n6_35 : ∀ b, NearOk (mkS [41, 40, 40, 40, 41, 41]) b
  | true => near_of size6 dr6t r6_35 (D := [65, 97, 97, 97, 65, 65]) (MD := [97, 65, 97, 97, 65, 65]) (by decide +kernel) (by decide +kernel) (by decide +kernel) (by decide +kernel)
  | false => near_of size6 dr6f r6_35 (D := [41, 40, 40, 40, 41, 41]) (MD := [40, 41, 40, 40, 41, 41]) rfl rfl (by decide +kernel) (by decide +kernel)
theorem r6_36 : RowOk 6 K6n [41, 40, 40, 41, 40, 40] [40, 40, 40, 41, 41, 41] [0, 4, 5] := ⟨by decide +kernel, by decide +kernel, by decide +kernel, by decide +kernel, by decide +kernel, by decide +kernel, by decide +kernel, by decide +kernel⟩
theorem n6_36 : ∀ b, NearOk (mkS [41, 40, 40, 41, 40, 40]) b
  | true => near_of size6 dr6t r6_36 (D := [65, 97, 97, 65, 97, 97]) (MD := [97, 97, 97, 65, 65, 65]) (by decide +kernel) (by decide +kernel) (by decide +kernel) (by decide +kernel)
  | false => near_of size6 dr6f r6_36 (D := [41, 40, 40, 41, 40, 40]) (MD := [40, 40, 40, 41, 41, 41]) rfl rfl (by decide +kernel) (by decide +kernel)
theorem r6_37 : RowOk 6 K6n [41, 40, 40, 41, 40, 41] [40, 41, 40, 41, 40, 41] [0, 1] := ⟨by decide +kernel, by decide +kernel, by decide +kernel, by decide +kernel, by decide +kernel, by decide +kernel, by decide +kernel, by decide +kernel⟩
theorem n6_37 : ∀ b, NearOk (mkS [41, 40, 40, 41, 40, 41]) b
  | true => near_of size6 dr6t r6_37 (D := [65, 97, 97, 65, 97, 65]) (MD := [97, 65, 97, 65, 97, 65]) (by decide +kernel) (by decide +kernel) (by decide +kernel) (by decide +kernel)
  | false => near_of size6 dr6f r6_37 (D := [41, 40, 40, 41, 40, 41]) (MD := [40, 41, 40, 41, 40, 41]) rfl rfl (by decide +kernel) (by decide +kernel)
theorem r6_38 : RowOk 6 K6n [41, 40, 40, 41, 41, 40] [40, 40, 40, 41, 41, 41] [0, 5] := ⟨by decide +kernel, by decide +kernel, by decide +kernel, by decide +kernel, by decide +kernel, by decide +kernel, by decide +kernel, by decide +kernel⟩
theorem n6_38 : ∀ b, NearOk (mkS [41, 40, 40, 41, 41, 40]) b
  | true => near_of size6 dr6t r6_38 (D := [65, 97, 97, 65, 65, 97]) (MD := [97, 97, 97, 65, 65, 65]) (by decide +kernel) (by decide +kernel) (by decide +kernel) (by decide +kernel)
  | false => near_of size6 dr6f r6_38 (D := [41, 40, 40, 41, 41, 40]) (MD := [40, 40, 40, 41, 41, 41]) rfl rfl (by decide +kernel) (by decide +kernel)
theorem r6_39 : RowOk 6 K6n [41, 40, 40, 41, 41, 41] [40, 40, 40, 41, 41, 41] [0] := ⟨by decide +kernel, by decide +kernel, by decide +kernel, by decide +kernel, by decide +kernel, by decide +kernel, by decide +kernel, by decide +kernel⟩
theorem n6_39 : ∀ b, NearOk (mkS [41, 40, 40, 41, 41, 41]) b
  | true => near_of size6 dr6t r6_39 (D := [65, 97, 97, 65, 65, 65]) (MD := [97, 97, 97, 65, 65, 65]) (by decide +kernel) (by decide +kernel) (by decide +kernel) (by decide +kernel)
  | false => near_of size6 dr6f r6_39 (D := [41, 40, 40, 41, 41, 41]) (MD := [40, 40, 40, 41, 41, 41]) rfl rfl (by decide +kernel) (by decide +kernel)
theorem r6_40 : RowOk 6 K6n [41, 40, 41, 40, 40, 40] [40, 40, 41, 40, 41, 41] [0, 4, 5] := ⟨by decide +kernel, by decide +kernel, by decide +kernel, by decide +kernel, by decide +kernel, by decide +kernel, by decide +kernel, by decide +kernel⟩
theorem n6_40 : ∀ b, NearOk (mkS [41, 40, 41, 40, 40, 40]) b
  | true => near_of size6 dr6t r6_40 (D := [65, 97, 65, 97, 97, 97]) (MD := [97, 97, 65, 97, 65, 65]) (by decide +kernel) (by decide +kernel) (by decide +kernel) (by decide +kernel)
  | false => near_of size6 dr6f r6_40 (D := [41, 40, 41, 40, 40, 40]) (MD := [40, 40, 41, 40, 41, 41]) rfl rfl (by decide +kernel) (by decide +kernel)
theorem r6_41 : RowOk 6 K6n [41, 40, 41, 40, 40, 41] [40, 40, 41, 41, 40, 41] [0, 3] := ⟨by decide +kernel, by decide +kernel, by decide +kernel, by decide +kernel, by decide +kernel, by decide +kernel, by decide +kernel, by decide +kernel⟩
theorem n6_41 : ∀ b, NearOk (mkS [41, 40, 41, 40, 40, 41]) b
  | true => near_of size6 dr6t r6_41 (D := [65, 97, 65, 97, 97, 65]) (MD := [97, 97, 65, 65, 97, 65]) (by decide +kernel) (by decide +kernel) (by decide +kernel) (by decide +kernel)
  | false => near_of size6 dr6f r6_41 (D := [41, 40, 41, 40, 40, 41]) (MD := [40, 40, 41, 41, 40, 41]) rfl rfl (by decide +kernel) (by decide +kernel)
theorem r6_42 : RowOk 6 K6n [41, 40, 41, 40, 41, 40] [40, 40, 41, 40, 41, 41] [0, 5] := ⟨by decide +kernel, by decide +kernel, by decide +kernel, by decide +kernel, by decide +kernel, by decide +kernel, by decide +kernel, by decide +kernel⟩
theorem n6_42 : ∀ b, NearOk (mkS [41, 40, 41, 40, 41, 40]) b
  | true => near_of size6 dr6t r6_42 (D := [65, 97, 65, 97, 65, 97]) (MD := [97, 97, 65, 97, 65, 65]) (by decide +kernel) (by decide +kernel) (by decide +kernel) (by decide +kernel)
  | false => near_of size6 dr6f r6_42 (D := [41, 40, 41, 40, 41, 40]) (MD := [40, 40, 41, 40, 41, 41]) rfl rfl (by decide +kernel) (by decide +kernel)
theorem r6_43 : RowOk 6 K6n [41, 40, 41, 40, 41, 41] [40, 40, 41, 40, 41, 41] [0] := ⟨by decide +kernel, by decide +kernel, by decide +kernel, by decide +kernel, by decide +kernel, by decide +kernel, by decide +kernel, by decide +kernel⟩
theorem n6_43 : ∀ b, NearOk (mkS [41, 40, 41, 40, 41, 41]) b
  | true => near_of size6 dr6t r6_43 (D := [65, 97, 65, 97, 65, 65]) (MD := [97, 97, 65, 97, 65, 65]) (by decide +kernel) (by decide +kernel) (by decide +kernel) (by decide +kernel)
  | false => near_of size6 dr6f r6_43 (D := [41, 40, 41, 40, 41, 41]) (MD := [40, 40, 41, 40, 41, 41]) rfl rfl (by decide +kernel) (by decide +kernel)
theorem r6_44 : RowOk 6 K6n [41, 40, 41, 41, 40, 40] [40, 40, 41, 41, 40, 41] [0, 5] := ⟨by decide +kernel, by decide +kernel, by decide +kernel, by decide +kernel, by decide +kernel, by decide +kernel, by decide +kernel, by decide +kernel⟩
theorem n6_44 : ∀ b, NearOk (mkS [41, 40, 41, 41, 40, 40]) b
  | true => near_of size6 dr6t r6_44 (D := [65, 97, 65, 65, 97, 97]) (MD := [97, 97, 65, 65, 97, 65]) (by decide +kernel) (by decide +kernel) (by decide +kernel) (by decide +kernel)
  | false => near_of size6 dr6f r6_44 (D := [41, 40, 41, 41, 40, 40]) (MD := [40, 40, 41, 41, 40, 41]) rfl rfl (by decide +kernel) (by decide +kernel)
theorem r6_45 : RowOk 6 K6n [41, 40, 41, 41, 40, 41] [40, 40, 41, 41, 40, 41] [0] := ⟨by decide +kernel, by decide +kernel, by decide +kernel, by decide +kernel, by decide +kernel, by decide +kernel, by decide +kernel, by decide +kernel⟩
theorem n6_45 : ∀ b, NearOk (mkS [41, 40, 41, 41, 40, 41]) b
  | true => near_of size6 dr6t r6_45 (D := [65, 97, 65, 65, 97, 65]) (MD := [97, 97, 65, 65, 97, 65]) (by decide +kernel) (by decide +kernel) (by decide +kernel) (by decide +kernel)
  | false => near_of size6 dr6f r6_45 (D := [41, 40, 41, 41, 40, 41]) (MD := [40, 40, 41, 41, 40, 41]) rfl rfl (by decide +kernel) (by decide +kernel)
theorem r6_46 : RowOk 6 K6n [41, 40, 41, 41, 41, 40] [40, 40, 41, 40, 41, 41] [0, 3, 5] := ⟨by decide +kernel, by decide +kernel, by decide +kernel, by decide +kernel, by decide +kernel, by decide +kernel, by decide +kernel, by decide +kernel⟩
theorem n6_46 : ∀ b, NearOk (mkS [41, 40, 41, 41, 41, 40]) b
  | true => near_of size6 dr6t r6_46 (D := [65, 97, 65, 65, 65, 97]) (MD := [97, 97, 65, 97, 65, 65]) (by decide +kernel) (by decide +kernel) (by decide +kernel) (by decide +kernel)
  | false => near_of size6 dr6f r6_46 (D := [41, 40, 41, 41, 41, 40]) (MD := [40, 40, 41, 40, 41, 41]) rfl rfl (by decide +kernel) (by decide +kernel)
theorem r6_47 : RowOk 6 K6n [41, 40, 41, 41, 41, 41] [40, 40, 41, 40, 41, 41] [0, 3] := ⟨by decide +kernel, by decide +kernel, by decide +kernel, by decide +kernel, by decide +kernel, by decide +kernel, by decide +kernel, by decide +kernel⟩
theorem n6_47 : ∀ b, NearOk (mkS [41, 40, 41, 41, 41, 41]) b
  | true => near_of size6 dr6t r6_47 (D := [65, 97, 65, 65, 65, 65]) (MD := [97, 97, 65, 97, 65, 65]) (by decide +kernel) (by decide +kernel) (by decide +kernel) (by decide +kernel)
  | false => near_of size6 dr6f r6_47 (D := [41, 40, 41, 41, 41, 41]) (MD := [40, 40, 41, 40, 41, 41]) rfl rfl (by decide +kernel) (by decide +kernel)
theorem r6_48 : RowOk 6 K6n [41, 41, 40, 40, 40, 40] [40, 41, 40, 40, 41, 41] [0, 4, 5] := ⟨by decide +kernel, by decide +kernel, by decide +kernel, by decide +kernel, by decide +kernel, by decide +kernel, by decide +kernel, by decide +kernel⟩
theorem n6_48 : ∀ b, NearOk (mkS [41, 41, 40, 40, 40, 40]) b
  | true => near_of size6 dr6t r6_48 (D := [65, 65, 97, 97, 97, 97]) (MD := [97, 65, 97, 97, 65, 65]) (by decide +kernel) (by decide +kernel) (by decide +kernel) (by decide +kernel)
  | false => near_of size6 dr6f r6_48 (D := [41, 41, 40, 40, 40, 40]) (MD := [40, 41, 40, 40, 41, 41]) rfl rfl (by decide +kernel) (by decide +kernel)
theorem r6_49 : RowOk 6 K6n [41, 41, 40, 40, 40, 41] [40, 41, 40, 41, 40, 41] [0, 3] := ⟨by decide +kernel, by decide +kernel, by decide +kernel, by decide +kernel, by decide +kernel, by decide +kernel, by decide +kernel, by decide +kernel⟩
theorem n6_49 : ∀ b, NearOk (mkS [41, 41, 40, 40, 40, 41]) b
  | true => near_of size6 dr6t r6_49 (D := [65, 65, 97, 97, 97, 65]) (MD := [97, 65, 97, 65, 97, 65]) (by decide +kernel) (by decide +kernel) (by decide +kernel) (by decide +kernel)
  | false => near_of size6 dr6f r6_49 (D := [41, 41, 40, 40, 40, 41]) (MD := [40, 41, 40, 41, 40, 41]) rfl rfl (by decide +kernel) (by decide +kernel)
theorem r6_50 : RowOk 6 K6n [41, 41, 40, 40, 41, 40] [40, 41, 40, 40, 41, 41] [0, 5] := ⟨by decide +kernel, by decide +kernel, by decide +kernel, by decide +kernel, by decide +kernel, by decide +kernel, by decide +kernel, by decide +kernel⟩
theorem n6_50 : ∀ b, NearOk (mkS [41, 41, 40, 40, 41, 40]) b
  | true => near_of size6 dr6t r6_50 (D := [65, 65, 97, 97, 65, 97]) (MD := [97, 65, 97, 97, 65, 65]) (by decide +kernel) (by decide +kernel) (by decide +kernel) (by decide +kernel)
  | false => near_of size6 dr6f r6_50 (D := [41, 41, 40, 40, 41, 40]) (MD := [40, 41, 40, 40, 41, 41]) rfl rfl (by decide +kernel) (by decide +kernel)
theorem r6_51 : RowOk 6 K6n [41, 41, 40, 40, 41, 41] [40, 41, 40, 40, 41, 41] [0] := ⟨by decide +kernel, by decide +kernel, by decide +kernel, by decide +kernel, by decide +kernel, by decide +kernel, by decide +kernel, by decide +kernel⟩
theorem n6_51 : ∀ b, NearOk (mkS [41, 41, 40, 40, 41, 41]) b
  | true => near_of size6 dr6t r6_51 (D := [65, 65, 97, 97, 65, 65]) (MD := [97, 65, 97, 97, 65, 65]) (by decide +kernel) (by decide +kernel) (by decide +kernel) (by decide +kernel)
  | false => near_of size6 dr6f r6_51 (D := [41, 41, 40, 40, 41, 41]) (MD := [40, 41, 40, 40, 41, 41]) rfl rfl (by decide +kernel) (by decide +kernel)
theorem r6_52 : RowOk 6 K6n [41, 41, 40, 41, 40, 40] [40, 41, 40, 41, 40, 41] [0, 5] := ⟨by decide +kernel, by decide +kernel, by decide +kernel, by decide +kernel, by decide +kernel, by decide +kernel, by decide +kernel, by decide +kernel⟩
theorem n6_52 : ∀ b, NearOk (mkS [41, 41, 40, 41, 40, 40]) b
  | true => near_of size6 dr6t r6_52 (D := [65, 65, 97, 65, 97, 97]) (MD := [97, 65, 97, 65, 97, 65]) (by decide +kernel) (by decide +kernel) (by decide +kernel) (by decide +kernel)
  | false => near_of size6 dr6f r6_52 (D := [41, 41, 40, 41, 40, 40]) (MD := [40, 41, 40, 41, 40, 41]) rfl rfl (by decide +kernel) (by decide +kernel)
theorem r6_53 : RowOk 6 K6n [41, 41, 40, 41, 40, 41] [40, 41, 40, 41, 40, 41] [0] := ⟨by decide +kernel, by decide +kernel, by decide +kernel, by decide +kernel, by decide +kernel, by decide +kernel, by decide +kernel, by decide +kernel⟩
theorem n6_53 : ∀ b, NearOk (mkS [41, 41, 40, 41, 40, 41]) b
  | true => near_of size6 dr6t r6_53 (D := [65, 65, 97, 65, 97, 65]) (MD := [97, 65, 97, 65, 97, 65]) (by decide +kernel) (by decide +kernel) (by decide +kernel) (by decide +kernel)
  | false => near_of size6 dr6f r6_53 (D := [41, 41, 40, 41, 40, 41]) (MD := [40, 41, 40, 41, 40, 41]) rfl rfl (by decide +kernel) (by decide +kernel)
theorem r6_54 : RowOk 6 K6n [41, 41, 40, 41, 41, 40] [40, 40, 40, 41, 41, 41] [0, 1, 5] := ⟨by decide +kernel, by decide +kernel, by decide +kernel, by decide +kernel, by decide +kernel, by decide +kernel, by decide +kernel, by decide +kernel⟩
theorem n6_54 : ∀ b, NearOk (mkS [41, 41, 40, 41, 41, 40]) b
  | true => near_of size6 dr6t r6_54 (D := [65, 65, 97, 65, 65, 97]) (MD := [97, 97, 97, 65, 65, 65]) (by decide +kernel) (by decide +kernel) (by decide +kernel) (by decide +kernel)
  | false => near_of size6 dr6f r6_54 (D := [41, 41, 40, 41, 41, 40]) (MD := [40, 40, 40, 41, 41, 41]) rfl rfl (by decide +kernel) (by decide +kernel)
theorem r6_55 : RowOk 6 K6n [41, 41, 40, 41, 41, 41] [40, 40, 40, 41, 41, 41] [0, 1] := ⟨by decide +kernel, by decide +kernel, by decide +kernel, by decide +kernel, by decide +kernel, by decide +kernel, by decide +kernel, by decide +kernel⟩
theorem n6_55 : ∀ b, NearOk (mkS [41, 41, 40, 41, 41, 41]) b
  | true => near_of size6 dr6t r6_55 (D := [65, 65, 97, 65, 65, 65]) (MD := [97, 97, 97, 65, 65, 65]) (by decide +kernel) (by decide +kernel) (by decide +kernel) (by decide +kernel)
  | false => near_of size6 dr6f r6_55 (D := [41, 41, 40, 41, 41, 41]) (MD := [40, 40, 40, 41, 41, 41]) rfl rfl (by decide +kernel) (by decide +kernel)
theorem r6_56 : RowOk 6 K6n [41, 41, 41, 40, 40, 40] [40, 40, 41, 40, 41, 41] [0, 1, 4, 5] := ⟨by decide +kernel, by decide +kernel, by decide +kernel, by decide +kernel, by decide +kernel, by decide +kernel, by decide +kernel, by decide +kernel⟩
theorem n6_56 : ∀ b, NearOk (mkS [41, 41, 41, 40, 40, 40]) b
  | true => near_of size6 dr6t r6_56 (D := [65, 65, 65, 97, 97, 97]) (MD := [97, 97, 65, 97, 65, 65]) (by decide +kernel) (by decide +kernel) (by decide +kernel) (by decide +kernel)
  | false => near_of size6 dr6f r6_56 (D := [41, 41, 41, 40, 40, 40]) (MD := [40, 40, 41, 40, 41, 41]) rfl rfl (by decide +kernel) (by decide +kernel)
theorem r6_57 : RowOk 6 K6n [41, 41, 41, 40, 40, 41] [40, 40, 41, 41, 40, 41] [0, 1, 3] := ⟨by decide +kernel, by decide +kernel, by decide +kernel, by decide +kernel, by decide +kernel, by decide +kernel, by decide +kernel, by decide +kernel⟩
theorem n6_57 : ∀ b, NearOk (mkS [41, 41, 41, 40, 40, 41]) b
  | true => near_of size6 dr6t r6_57 (D := [65, 65, 65, 97, 97, 65]) (MD := [97, 97, 65, 65, 97, 65]) (by decide +kernel) (by decide +kernel) (by decide +kernel) (by decide +kernel)
  | false => near_of size6 dr6f r6_57 (D := [41, 41, 41, 40, 40, 41]) (MD := [40, 40, 41, 41, 40, 41]) rfl rfl (by decide +kernel) (by decide +kernel)
theorem r6_58 : RowOk 6 K6n [41, 41, 41, 40, 41, 40] [40, 40, 41, 40, 41, 41] [0, 1, 5] := ⟨by decide +kernel, by decide +kernel, by decide +kernel, by decide +kernel, by decide +kernel, by decide +kernel, by decide +kernel, by decide +kernel⟩
theorem n6_58 : ∀ b, NearOk (mkS [41, 41, 41, 40, 41, 40]) b
  | true => near_of size6 dr6t r6_58 (D := [65, 65, 65, 97, 65, 97]) (MD := [97, 97, 65, 97, 65, 65]) (by decide +kernel) (by decide +kernel) (by decide +kernel) (by decide +kernel)
  | false => near_of size6 dr6f r6_58 (D := [41, 41, 41, 40, 41, 40]) (MD := [40, 40, 41, 40, 41, 41]) rfl rfl (by decide +kernel) (by decide +kernel)
theorem r6_59 : RowOk 6 K6n [41, 41, 41, 40, 41, 41] [40, 40, 41, 40, 41, 41] [0, 1] := ⟨by decide +kernel, by decide +kernel, by decide +kernel, by decide +kernel, by decide +kernel, by decide +kernel, by decide +kernel, by decide +kernel⟩
theorem n6_59 : ∀ b, NearOk (mkS [41, 41, 41, 40, 41, 41]) b
  | true => near_of size6 dr6t r6_59 (D := [65, 65, 65, 97, 65, 65]) (MD := [97, 97, 65, 97, 65, 65]) (by decide +kernel) (by decide +kernel) (by decide +kernel) (by decide +kernel)
  | false => near_of size6 dr6f r6_59 (D := [41, 41, 41, 40, 41, 41]) (MD := [40, 40, 41, 40, 41, 41]) rfl rfl (by decide +kernel) (by decide +kernel)
theorem r6_60 : RowOk 6 K6n [41, 41, 41, 41, 40, 40] [40, 40, 41, 41, 40, 41] [0, 1, 5] := ⟨by decide +kernel, by decide +kernel, by decide +kernel, by decide +kernel, by decide +kernel, by decide +kernel, by decide +kernel, by decide +kernel⟩
theorem n6_60 : ∀ b, NearOk (mkS [41, 41, 41, 41, 40, 40]) b
  | true => near_of size6 dr6t r6_60 (D := [65, 65, 65, 65, 97, 97]) (MD := [97, 97, 65, 65, 97, 65]) (by decide +kernel) (by decide +kernel) (by decide +kernel) (by decide +kernel)
  | false => near_of size6 dr6f r6_60 (D := [41, 41, 41, 41, 40, 40]) (MD := [40, 40, 41, 41, 40, 41]) rfl rfl (by decide +kernel) (by decide +kernel)
theorem r6_61 : RowOk 6 K6n [41, 41, 41, 41, 40, 41] [40, 40, 41, 41, 40, 41] [0, 1] := ⟨by decide +kernel, by decide +kernel, by decide +kernel, by decide +kernel, by decide +kernel, by decide +kernel, by decide +kernel, by decide +kernel⟩
theorem n6_61 : ∀ b, NearOk (mkS [41, 41, 41, 41, 40, 41]) b
  | true => near_of size6 dr6t r6_61 (D := [65, 65, 65, 65, 97, 65]) (MD := [97, 97, 65, 65, 97, 65]) (by decide +kernel) (by decide +kernel) (by decide +kernel) (by decide +kernel)
  | false => near_of size6 dr6f r6_61 (D := [41, 41, 41, 41, 40, 41]) (MD := [40, 40, 41, 41, 40, 41]) rfl rfl (by decide +kernel) (by decide +kernel)
theorem r6_62 : RowOk 6 K6n [41, 41, 41, 41, 41, 40] [40, 40, 40, 41, 41, 41] [0, 1, 2, 5] := ⟨by decide +kernel, by decide +kernel, by decide +kernel, by decide +kernel, by decide +kernel, by decide +kernel, by decide +kernel, by decide +kernel⟩
theorem n6_62 : ∀ b, NearOk (mkS [41, 41, 41, 41, 41, 40]) b
  | true => near_of size6 dr6t r6_62 (D := [65, 65, 65, 65, 65, 97]) (MD := [97, 97, 97, 65, 65, 65]) (by decide +kernel) (by decide +kernel) (by decide +kernel) (by decide +kernel)
  | false => near_of size6 dr6f r6_62 (D := [41, 41, 41, 41, 41, 40]) (MD := [40, 40, 40, 41, 41, 41]) rfl rfl (by decide +kernel) (by decide +kernel)
theorem r6_63 : RowOk 6 K6n [41, 41, 41, 41, 41, 41] [40, 40, 40, 41, 41, 41] [0, 1, 2] := ⟨by decide +kernel, by decide +kernel, by decide +kernel, by decide +kernel, by decide +kernel, by decide +kernel, by decide +kernel, by decide +kernel⟩
theorem n6_63 : ∀ b, NearOk (mkS [41, 41, 41, 41, 41, 41]) b
  | true => near_of size6 dr6t r6_63 (D := [65, 65, 65, 65, 65, 65]) (MD := [97, 97, 97, 65, 65, 65]) (by decide +kernel) (by decide +kernel) (by decide +kernel) (by decide +kernel)
  | false => near_of size6 dr6f r6_63 (D := [41, 41, 41, 41, 41, 41]) (MD := [40, 40, 40, 41, 41, 41]) rfl rfl (by decide +kernel) (by decide +kernel)
theorem all6 : ∀ l ∈ [[40, 40, 40, 40, 40, 40], [40, 40, 40, 40, 40, 41], [40, 40, 40, 40, 41, 40], [40, 40, 40, 40, 41, 41], [40, 40, 40, 41, 40, 40], [40, 40, 40, 41, 40, 41], [40, 40, 40, 41, 41, 40], [40, 40, 40, 41, 41, 41], [40, 40, 41, 40, 40, 40], [40, 40, 41, 40, 40, 41], [40, 40, 41, 40, 41, 40], [40, 40, 41, 40, 41, 41], [40, 40, 41, 41, 40, 40], [40, 40, 41, 41, 40, 41], [40, 40, 41, 41, 41, 40], [40, 40, 41, 41, 41, 41], [40, 41, 40, 40, 40, 40], [40, 41, 40, 40, 40, 41], [40, 41, 40, 40, 41, 40], [40, 41, 40, 40, 41, 41], [40, 41, 40, 41, 40, 40], [40, 41, 40, 41, 40, 41], [40, 41, 40, 41, 41, 40], [40, 41, 40, 41, 41, 41], [40, 41, 41, 40, 40, 40], [40, 41, 41, 40, 40, 41], [40, 41, 41, 40, 41, 40], [40, 41, 41, 40, 41, 41], [40, 41, 41, 41, 40, 40], [40, 41, 41, 41, 40, 41], [40, 41, 41, 41, 41, 40], [40, 41, 41, 41, 41, 41], [41, 40, 40, 40, 40, 40], [41, 40, 40, 40, 40, 41], [41, 40, 40, 40, 41, 40], [41, 40, 40, 40, 41, 41], [41, 40, 40, 41, 40, 40], [41, 40, 40, 41, 40, 41], [41, 40, 40, 41, 41, 40], [41, 40, 40, 41, 41, 41], [41, 40, 41, 40, 40, 40], [41, 40, 41, 40, 40, 41], [41, 40, 41, 40, 41, 40], [41, 40, 41, 40, 41, 41], [41, 40, 41, 41, 40, 40], [41, 40, 41, 41, 40, 41], [41, 40, 41, 41, 41, 40], [41, 40, 41, 41, 41, 41], [41, 41, 40, 40, 40, 40], [41, 41, 40, 40, 40, 41], [41, 41, 40, 40, 41, 40], [41, 41, 40, 40, 41, 41], [41, 41, 40, 41, 40, 40], [41, 41, 40, 41, 40, 41], [41, 41, 40, 41, 41, 40], [41, 41, 40, 41, 41, 41], [41, 41, 41, 40, 40, 40], [41, 41, 41, 40, 40, 41], [41, 41, 41, 40, 41, 40], [41, 41, 41, 40, 41, 41], [41, 41, 41, 41, 40, 40], [41, 41, 41, 41, 40, 41], [41, 41, 41, 41, 41, 40], [41, 41, 41, 41, 41, 41]], ∀ b, NearOk (mkS l) b :=
  fac n6_0 ( fac n6_1 ( fac n6_2 ( fac n6_3 ( fac n6_4 ( fac n6_5 ( fac n6_6 ( fac n6_7 ( fac n6_8 ( fac n6_9 ( fac n6_10 ( fac n6_11 ( fac n6_12 ( fac n6_13 ( fac n6_14 ( fac n6_15 ( fac n6_16 ( fac n6_17 ( fac n6_18 ( fac n6_19 ( fac n6_20 ( fac n6_21 ( fac n6_22 ( fac n6_23 ( fac n6_24 ( fac n6_25 ( fac n6_26 ( fac n6_27 ( fac n6_28 ( fac n6_29 ( fac n6_30 ( fac n6_31 ( fac n6_32 ( fac n6_33 ( fac n6_34 ( fac n6_35 ( fac n6_36 ( fac n6_37 ( fac n6_38 ( fac n6_39 ( fac n6_40 ( fac n6_41 ( fac n6_42 ( fac n6_43 ( fac n6_44 ( fac n6_45 ( fac n6_46 ( fac n6_47 ( fac n6_48 ( fac n6_49 ( fac n6_50 ( fac n6_51 ( fac n6_52 ( fac n6_53 ( fac n6_54 ( fac n6_55 ( fac n6_56 ( fac n6_57 ( fac n6_58 ( fac n6_59 ( fac n6_60 ( fac n6_61 ( fac n6_62 ( fac n6_63 (fa0))))))))))))))))))))))))))))))))))))))))))))))))))))))))))))))))
def nums : Nat → List (List Nat)
  | 0 => [[]]
  | n + 1 => (nums n).map (40 :: ·) ++ (nums n).map (41 :: ·)
theorem mem_nums : ∀ l : List Nat, (∀ c ∈ l, c = 40 ∨ c = 41) → l ∈ nums l.length
  | [], _ => .head _
  | c :: l, h => by
    have ih := mem_nums l fun d hd => h d (.tail _ hd)
    show _ ∈ (nums l.length).map (40 :: ·) ++ (nums l.length).map (41 :: ·)
    rcases h c (.head _) with rfl | rfl
    · exact List.mem_append_left _ (List.mem_map_of_mem ih)
    · exact List.mem_append_right _ (List.mem_map_of_mem ih)
theorem near_all (l : List Nat) (h : l.length = 4 ∨ l.length = 6) (hs : ∀ c ∈ l, c = 40 ∨ c = 41) (b : Bool) : NearOk (mkS l) b := by
  have hm := mem_nums l hs
  rcases h with h | h
  · rw [h] at hm
    exact all4 l hm b
  · rw [h] at hm
    exact all6 l hm b
end Mine

end
section
open PySem PySem.W PyProof.Rows PySem.Calls PyProof.V PySem.Spec
set_option maxRecDepth 100000
set_option maxHeartbeats 0
namespace Mine
set_option linter.unusedVariables false
def sg (k : Int) : Nat := if k.fmod 2 = 0 then 40 else 41
theorem sg_item (k : Int) : Txt.item (Str.ofString "()") (k.fmod 2) = Str.mk #[sg k] := by
  have h : k.fmod 2 = 0 ∨ k.fmod 2 = 1 := by rw [Int.fmod_eq_emod_of_nonneg k (by decide)]; omega
  unfold sg
  rcases h with h | h <;> rw [h] <;> decide +kernel
theorem sg_all (NS : List Int) : ∀ c ∈ NS.map sg, c = 40 ∨ c = 41 := by
  intro c hc
  obtain ⟨k, _, rfl⟩ := List.mem_map.mp hc
  unfold sg
  split
  · exact Or.inl rfl
  · exact Or.inr rfl
theorem sg_sum : ∀ NS : List Int, ((NS.map fun k => Str.mk #[sg k]).map (fun y => y.length)).sum = NS.length
  | [] => rfl
  | k :: r => by
    rw [List.map_cons, List.map_cons, List.sum_cons, sg_sum r, List.length_cons]
    show 1 + _ = _
    omega
theorem sg_join0 : ∀ NS : List Int, Str.join ⟨#[]⟩ (NS.map fun k => Str.mk #[sg k]) = mkS (NS.map sg)
  | [] => rfl
  | k :: r => by
    rw [List.map_cons, List.map_cons, PyProof.Rows.join_nil_cons, sg_join0 r]
    show Str.mk (#[sg k] ++ (r.map sg).toArray) = Str.mk (sg k :: r.map sg).toArray
    simp
theorem sg_join (NS : List Int) : Txt.join (Str.ofString "") (NS.map fun k => Str.mk #[sg k]) = mkS (NS.map sg) := by
  rw [show Str.ofString "" = ⟨#[]⟩ from by decide +kernel]
  exact (StrLaws.glued_eq_join _ _).trans (sg_join0 NS)
theorem bare_end {α : Type} {M : Model} {A : Around} {t : Sem α} {Q : α → Shared → Prop} {E : Value → Shared → Prop} {s : Shared} (hb : AllBare s.gens)
    (h : wpAny M A t (fun a s' => AllBare s'.gens → Q a s') E s) : wpAny M A t Q E s :=
  any_le (wpAny_mono h (fun _ _ q l => q (l.bare hb)) fun _ _ e _ => e)
theorem ns_cut {vs : List Value} {NS : List Int} {G : Prop} (J : IntsAre vs NS) (h : NS.length = 4 ∨ NS.length = 6) (k : ∀ NS, IntsAre vs NS → (NS.length = 4 ∨ NS.length = 6) → G) : G := k NS J h
section
local macro_rules | `(tactic| walk_at "eval ListComp") => `(tactic| (refine halt ?_))
local macro_rules | `(tactic| walk_at "call builtin:str.join") => `(tactic| (refine halt ?_))
local macro_rules | `(tactic| walk_at "subscriptTail") => `(tactic| ((with_reducible show wpAny _ _ (subscriptTail (PySem.Expr.BinOp _ _ _ _) (PySem.Expr.Slice _ _ _ _) (Value.ref _) (Value.ref _)) _ _ _); k_dflt (refine kba_turn (value' := PySem.Expr.Name (PySem.Str.ofString "_") ⟨0, 0, 0, 0⟩) (fun _ => rfl) ?_)))
local macro_rules | `(tactic| walk_at "CEnd") => `(tactic| (refine halt ?_))
local macro_rules | `(tactic| walk_at "call ref") => `(tactic| ((with_reducible show wpAny _ _ (call (Value.ref 87) _) _ _ _); k_dflt (refine Mine.bare_end (AllBare.of_eq (by assumption)) ?_; refine' nearest_call ?b1 ?b2 ?s3 ?s4 ?s5 ?s6 ?s7 ?s8 ?s9 ?s10 ?_; (case b1 => exact (show ∀ b, Mine.NearOk _ b by assumption) _); (case b2 => first | assumption | (dsimp only; omega)); (case s3 => k_asm); (case s4 => k_asm); (case s5 => k_asm); (case s6 => k_asm); (case s7 => k_asm); (case s8 => exact rfl); (case s9 => ktr_room); (case s10 => ktr_units)); intro h9 tk9 G9 F9 N9 hb9; (try dsimp only at hb9); (try k_lt l9); (try dsimp only)))
theorem law_holds : PySem.Challenge.rw_pg0136_01.Holds := by
  refine hd ?_
  k_fill
  intro w s₀ s₁ mg mb G Y fa o pm cd doc dV kV ho hd hcd hD hmg hg args vals as hpre hlay hrd hwl hlo
  have KX := kIn_of Y
  have X := (Ground.X G).1
  have V := (Ground.X G).2
  have GL := glob_more (Ground.glob G (by first | k_qdec | decide +kernel) (by first | k_qdec | decide +kernel)) V
  refine Ground.open G ?_
  intro T B D TE TW
  try (refine guard_noD D (by decide +kernel) ?_; clear D)
  obtain ⟨_, _, M⟩ := bmod_of_top T
  have TA := at_of_top T
  try (obtain ⟨_, _, he, B0⟩ := based_of_top T rfl hmg ho hd; have he' : cd = _ := he; subst he'; clear he)
  clear hmg
  wrow_args hpre hlay hrd hwl hlo
  first | refine callC_kw (enter_call ?_) | refine enter_call ?_
  w_top on
  have K0 := below_caller (Top.heap T)
  w_call any ho hd hcd hD T F
  clear hd TA
  k_drop
  (all_goals try k_fold)
  k_steps
  refine go ?_
  with_reducible rename Fr _ _ _ _ => F
  with_reducible rename News _ _ _ _ => N
  refine comp_at (cl := []) rfl rfl (by decide) ?_
  k_steps
  all_goals
    with_reducible rename Fr _ _ _ _ => F
    with_reducible rename News _ _ _ _ => N
    with_reducible rename IntsAre _ _ => J1
    refine ns_cut J1 (by simp only [List.length_append, List.length_take, List.length_cons, List.length_nil]; omega) ?_
    clear J1
    intro NS J1 hlen
    have J1l := J1.length
    dsimp only
    refine comp_list (fun i ys => StrsAre ys ((NS.take i).map fun k => Str.mk #[sg k])) (by first | assumption | (dsimp only; omega)) rfl (by decide) rfl rfl (.head _) (by rw [J1l]; unfold sizeLine; omega) F N .nil ?_ ?_
    · intro i v I oI C oC D m₂ ys h tk E' hv htk hPi hC hm₂ F N off ne
      obtain ⟨p, t, rfl, hpi⟩ := IntsAre.at J1 i v hv
      refine wpAny_tests_nil ?_
      intro htk'
      rw [if_pos rfl]
      k_steps
      refine go ?_
      with_reducible rename Fr _ _ _ _ => F
      with_reducible rename News _ _ _ _ => N
      refine c_end F N (fun p hp => hp) ?_
      clear F N
      show StrsAre _ _
      rw [List.take_add_one, hpi, List.map_append]
      rw [sg_item]
      exact hPi.append' (.cons _ _ .nil)
    clear F N
    intro D8 ys8 h8 tk8 htk8 hP8 F N lt8
    rw [J1l, List.take_length] at hP8
    have ok : ∀ b, NearOk (mkS (NS.map sg)) b := near_all _ (by rw [List.length_map]; exact hlen) (sg_all NS)
    dsimp only at *
    k_steps
    refine go ?_
    with_reducible rename Fr _ _ _ _ => F
    with_reducible rename News _ _ _ _ => N
    refine Mine.pos (by first | assumption | (dsimp only; omega)) ?_
    refine join_listW (items := ys8.toArray) ⟨_, (N _ (.head _)).1, rfl, _, rfl⟩ hP8 (by decide) (by rw [sg_sum, List.length_map]; omega) ?_
    intro t8 k8 htk8'
    rw [sg_join]
    dsimp only at htk8' ⊢
    generalize mkS (NS.map sg) = x at *
    k_steps
    with_reducible rename Fr _ _ _ _ => F
    with_reducible rename AllBare _ => hb
    refine ⟨.inl ⟨_, _, _, rfl, raisesW_false ?_, ReadsW.bool _, ?_, unshared_nil⟩, .of_keep (Fr.keep F), rfl, hb⟩
    · wrow_none_raised
    · wrow_post
end
end Mine

end
set_option maxRecDepth 100000 in
theorem PySem.Challenge.cw_pg0136_01_holds : PySem.Challenge.rw_pg0136_01.Holds := by
  exact Mine.law_holds
