import PyProof.Rows.All
import Wide.All
import OpenK.AllK
import Wide.FinOn
import Lean
import PySem.Challenge.RW_wu0076_01
open PySem PySem.W PyProof.Rows
set_option Elab.async false
set_option maxRecDepth 100000

-- LTop
section
set_option maxHeartbeats 0
/- the written part of the heap as a constant of its own, without a head: the head's own step is handed the hypothesis -/
local macro_rules | `(tactic| o_head $_) => `(tactic| assumption)
theorem Mine.hd (h : PySem.Challenge.rw_wu0076_01.row.Holds) : PySem.Challenge.rw_wu0076_01.row.Holds := by k_head
end

-- CtBase
section
theorem Mine.fresh_CtBase : True := by (w_top off; exact True.intro)
open PySem.W.X
namespace Mine
/-- a contract of a def that keeps the generators: what it makes lies ahead of the ledger -/
def Ct0 (w : World) (k : Nat) (f : Addr) (vs : List Value) (need : List (Addr × Obj)) (Out : Value → List (Addr × Obj) → Prop) : Prop :=
  ∀ (p : Program) (loose : List Str) (mean : ExcName → Option Value) (mg mb : Str → Option Value) (dp un : Nat) (gd : Option (List Code)) (cn : Str) (cs : Scope) (a : Addr) (ccd : Value) (cl : List (Str × Addr)) (outer : List Env) (A₀ : Around) (base h₀ : Heap) (L : Addr) (m : Str → Option Value) (news : List (Addr × Obj)) (s : Shared) (Q E : Value → Shared → Prop),
    Below A₀ base outer h₀ → Fr h₀ L s.heap m → (Mine.hd.heap_1 w.params).In h₀ → News h₀ L s.heap news → Top p loose mean mg mb h₀ → cs.kind = .function → dp + k < 800 → un + 16 * k < 8000 → (∀ p ∈ need, p ∈ news) →
    (∀ r tl h' tk', Fr h₀ L h' m → News h₀ L h' (tl ++ news) → (∀ p ∈ tl, ∀ q ∈ news, q.1 < p.1) → Out r tl → Q r { s with heap := h', toks := tk' }) →
    wpAny (model PySem.Challenge.rw_wu0076_01.row.prog w) (ktrTop dp un gd cn cs L a ccd cl outer) (call (.ref f) vs) Q E s
theorem ct0_use {w : World} {k : Nat} {f : Addr} {vs : List Value} {need : List (Addr × Obj)} {Out : Value → List (Addr × Obj) → Prop} (C : Ct0 w k f vs need Out)
    {p : Program} {loose : List Str} {mean : ExcName → Option Value} {mg mb : Str → Option Value} {dp un : Nat} {gd : Option (List Code)} {cn : Str} {cs : Scope} {a : Addr} {ccd : Value} {cl : List (Str × Addr)} {outer : List Env} {A₀ : Around} {base h₀ : Heap} {L : Addr} {m : Str → Option Value} {news : List (Addr × Obj)} {s : Shared} {Q E : Value → Shared → Prop}
    (B : Below A₀ base outer h₀) (F : Fr h₀ L s.heap m) (X : (Mine.hd.heap_1 w.params).In h₀) (N : News h₀ L s.heap news) (T : Top p loose mean mg mb h₀) (hk : cs.kind = .function) (hd : dp + k < 800) (hu : un + 16 * k < 8000) (hn : ∀ p ∈ need, p ∈ news)
    (ret : ∀ r tl h' tk', Fr h₀ L h' m → News h₀ L h' (tl ++ news) → (∀ p ∈ tl, ∀ q ∈ news, q.1 < p.1) → Out r tl → Q r { s with heap := h', toks := tk' }) :
    wpAny (model PySem.Challenge.rw_wu0076_01.row.prog w) (ktrTop dp un gd cn cs L a ccd cl outer) (call (.ref f) vs) Q E s :=
  C p loose mean mg mb dp un gd cn cs a ccd cl outer A₀ base h₀ L m news s Q E B F X N T hk hd hu hn ret
theorem news_cons {h₀ h : Heap} {L : Addr} {news : List (Addr × Obj)} {p : Addr × Obj} (N : News h₀ L h news) (hp : p ∈ news) : News h₀ L h (p :: news) := fun q hq => by
  rcases List.mem_cons.mp hq with rfl | hq
  · exact N _ hp
  · exact N _ hq
theorem news_out {h₀ h : Heap} {L : Addr} {news : List (Addr × Obj)} {p q : Addr × Obj} (N : News h₀ L h (q :: p :: news)) : News h₀ L h ([q] ++ news) := fun r hr => by
  rcases List.mem_cons.mp hr with rfl | hr
  · exact N _ (.head _)
  · exact N _ (.tail _ (.tail _ hr))
theorem ord1 {news : List (Addr × Obj)} {q : Addr} {o : Obj} (h : ∀ p ∈ news, p.1 < q) : ∀ p ∈ [(q, o)], ∀ r ∈ news, r.1 < p.1 := by
  intro p hp r hr
  rw [List.mem_singleton.mp hp]
  exact h r hr
theorem ord2 {news : List (Addr × Obj)} {q l : Addr} {o ol : Obj} (h : ∀ p ∈ (l, ol) :: news, p.1 < q) : ∀ p ∈ [(q, o)], ∀ r ∈ news, r.1 < p.1 := ord1 fun p hp => h p (.tail _ hp)
def Stop (P : Prop) : Prop := P
theorem Stop.mk' {P : Prop} (h : Stop P) : P := h
theorem Stop.out {P : Prop} (h : P) : Stop P := h
theorem fr3 {h₀ h : Heap} {L : Addr} {m : Str → Option Value} {a b c : Str} {va vb vc : Option Value} (F : Fr h₀ L h m) (ha : m a = va) (hb : m b = vb) (hc : m c = vc) : Fr h₀ L h (fun y => if y = a then va else if y = b then vb else if y = c then vc else m y) := by
  have e : (fun y => if y = a then va else if y = b then vb else if y = c then vc else m y) = m := by
    funext y
    by_cases h1 : y = a
    · simp [h1, ha]
    · by_cases h2 : y = b
      · simp only [if_neg h1]; simp [h2, hb]
      · by_cases h3 : y = c
        · simp only [if_neg h1, if_neg h2]; simp [h3, hc]
        · simp [h1, h2, h3]
  rw [e]; exact F
def Back (n : Nat) (I : Nat → Shared → Prop) (s : Shared) : Prop := ∃ m, m < n ∧ I m s
theorem my_while {prog : Program} {w : World} {A : Around} {R : Result → Shared → Prop} {s : Shared} {test : PySem.Expr} {body orelse : List Stmt} {env : Env} (I : Nat → Shared → Prop)
    (turn : ∀ n s, I n s →
      wpAny (model prog w) A (isTrue test env (eval test env)) (fun b s₂ =>
        if b then wpAny (model prog w) A (execs body env) (fun f s₃ => match f with
            | .next | .cont => Back n I s₃
            | .brk => R (.ok .next) s₃
            | .ret v => R (.ok (.ret v)) s₃) (notedBy (model prog w) A env fun e s' => R (.error e) s') s₂
        else wpAny (model prog w) A (execs orelse env) (fun f s₃ => R (.ok f) s₃) (notedBy (model prog w) A env fun e s' => R (.error e) s') s₂)
        (notedBy (model prog w) A env fun e s' => R (.error e) s') s)
    (n : Nat) (h : I n s) : codeAny (model prog w) A (.whileLoop test body orelse env) R s := codeAny_whileLoop I turn n h
theorem my_for {prog : Program} {w : World} {A : Around} {R : Result → Shared → Prop} {s : Shared} {target : PySem.Expr} {it : Value} {body orelse : List Stmt} {env : Env} (I : Nat → Shared → Prop)
    (turn : ∀ n s, I n s → wpAny (model prog w) A (pyNext it) (fun r s₁ => match r with
      | none => wpAny (model prog w) A (execs orelse env) (fun f s₃ => R (.ok f) s₃) (notedBy (model prog w) A env fun e s' => R (.error e) s') s₁
      | some v => wpAny (model prog w) A (letOwnedTupleGo target it v) (fun _ s₁' =>
          wpAny (model prog w) A (assign target env v) (fun _ s₂ => wpAny (model prog w) A (execs body env) (fun f s₃ => match f with
            | .next | .cont => Back n I s₃
            | .brk => R (.ok .next) s₃
            | .ret v => R (.ok (.ret v)) s₃) (notedBy (model prog w) A env fun e s' => R (.error e) s') s₂) (notedBy (model prog w) A env fun e s' => R (.error e) s') s₁') (notedBy (model prog w) A env fun e s' => R (.error e) s') s₁) (notedBy (model prog w) A env fun e s' => R (.error e) s') s)
    (n : Nat) (h : I n s) : codeAny (model prog w) A (.forLoop target it body orelse env) R s := codeAny_forLoop_any I turn n h
theorem sub_tail {p : Addr × Obj} {xs ys : List (Addr × Obj)} (h : ∀ q ∈ xs, q ∈ ys) : ∀ q ∈ xs, q ∈ p :: ys := fun q hq => .tail _ (h q hq)
theorem sub_keep {p : Addr × Obj} {xs ys : List (Addr × Obj)} (h : ∀ q ∈ xs, q ∈ ys) : ∀ q ∈ [p] ++ xs, q ∈ p :: ys := fun q hq => by
  rcases List.mem_cons.mp hq with rfl | hq
  · exact .head _
  · exact .tail _ (h q hq)
theorem sub_keep' {p : Addr × Obj} {xs ys : List (Addr × Obj)} (h : ∀ q ∈ xs, q ∈ ys) : ∀ q ∈ p :: xs, q ∈ p :: ys := sub_keep h
theorem sub_same {xs : List (Addr × Obj)} : ∀ q ∈ xs, q ∈ xs := fun _ h => h
theorem fr1 {h₀ h : Heap} {L : Addr} {m : Str → Option Value} {a : Str} {va : Option Value} (F : Fr h₀ L h m) (ha : m a = va) : Fr h₀ L h (fun y => if y = a then va else m y) := by
  have e : (fun y => if y = a then va else m y) = m := by
    funext y
    by_cases h1 : y = a
    · simp [h1, ha]
    · simp only [if_neg h1]
  rw [e]; exact F
theorem fr_if {m : Str → Option Value} {a b : Str} {va vb : Option Value} (h : m b = vb) (hne : b ≠ a) : (fun y => if y = a then va else m y) b = vb := by simp only [if_neg hne]; exact h
theorem fr4 {h₀ h : Heap} {L : Addr} {m : Str → Option Value} {a b c d : Str} {va vb vc vd : Option Value} (F : Fr h₀ L h m) (ha : m a = va) (hb : m b = vb) (hc : m c = vc) (hd : m d = vd) (h1 : a ≠ d) (h2 : b ≠ d) (h3 : c ≠ d) :
    Fr h₀ L h (fun y => if y = a then va else if y = b then vb else if y = c then vc else if y = d then vd else m y) :=
  fr3 (fr1 F hd) (fr_if ha h1) (fr_if hb h2) (fr_if hc h3)
/-- a contract of a def that may make generators and grow the code table at 147; it hands back a plain value and leaves the ledger as it lay -/
def Ct1 (w : World) (k : Nat) (f : Addr) (vs : List Value) (Out : Value → Prop) : Prop :=
  ∀ (p : Program) (loose : List Str) (mean : ExcName → Option Value) (mg mb : Str → Option Value) (dp un : Nat) (gd : Option (List Code)) (cn : Str) (cs : Scope) (a : Addr) (ccd : Value) (cl : List (Str × Addr)) (outer : List Env) (A₀ : Around) (base h₀ : Heap) (L : Addr) (m : Str → Option Value) (ps : Array Value) (news : List (Addr × Obj)) (s : Shared) (Q E : Value → Shared → Prop),
    Below A₀ base outer h₀ → Fr h₀ L s.heap m → (Mine.hd.heap_1 w.params).In h₀ → News h₀ L s.heap ((147, tableObj ps) :: news) → TriplesOk ps.toList → (∀ p ∈ news, p.1 ≠ 147) → Top p loose mean mg mb h₀ → cs.kind = .function → AllBare s.gens → dp + k < 800 → un + 16 * k < 8000 →
    (∀ r ps' h' tk' g', Fr h₀ L h' m → News h₀ L h' ((147, tableObj ps') :: news) → TriplesOk ps'.toList → AllBare g' → Out r → Q r ⟨h', g', s.drawn, tk', s.os⟩) →
    wpAny (model PySem.Challenge.rw_wu0076_01.row.prog w) (ktrTop dp un gd cn cs L a ccd cl outer) (call (.ref f) vs) Q E s
/-- Ct1 that also reads from the ledger -/
def Ct2 (w : World) (k : Nat) (f : Addr) (vs : List Value) (need : List (Addr × Obj)) (Out : Value → Prop) : Prop :=
  ∀ (p : Program) (loose : List Str) (mean : ExcName → Option Value) (mg mb : Str → Option Value) (dp un : Nat) (gd : Option (List Code)) (cn : Str) (cs : Scope) (a : Addr) (ccd : Value) (cl : List (Str × Addr)) (outer : List Env) (A₀ : Around) (base h₀ : Heap) (L : Addr) (m : Str → Option Value) (ps : Array Value) (news : List (Addr × Obj)) (s : Shared) (Q E : Value → Shared → Prop),
    Below A₀ base outer h₀ → Fr h₀ L s.heap m → (Mine.hd.heap_1 w.params).In h₀ → News h₀ L s.heap ((147, tableObj ps) :: news) → TriplesOk ps.toList → (∀ p ∈ news, p.1 ≠ 147) → Top p loose mean mg mb h₀ → cs.kind = .function → AllBare s.gens → dp + k < 800 → un + 16 * k < 8000 → (∀ p ∈ need, p ∈ news) →
    (∀ r ps' h' tk' g', Fr h₀ L h' m → News h₀ L h' ((147, tableObj ps') :: news) → TriplesOk ps'.toList → AllBare g' → s.gens.size ≤ g'.size → (∀ i, i < s.gens.size → g'[i]? = s.gens[i]?) → Out r → Q r ⟨h', g', s.drawn, tk', s.os⟩) →
    wpAny (model PySem.Challenge.rw_wu0076_01.row.prog w) (ktrTop dp un gd cn cs L a ccd cl outer) (call (.ref f) vs) Q E s
end Mine
end

-- FlA
section
theorem Mine.fresh_FlA : True := by (w_top off; exact True.intro)
open PySem PySem.W PyProof.Rows PySem.Flt
namespace Mine
def fr (i : Int) : UInt64 := Float64.ofFrac (decide (i < 0) != decide ((32 : Int) < 0)) i.natAbs (32 : Int).natAbs
def max3 (a b c : Int) : Int := if a < b then (if b < c then c else b) else (if a < c then c else a)
def min3 (a b c : Int) : Int := if b < a then (if c < b then c else b) else (if c < a then c else a)
theorem max3_is (a b c : Int) : max3 a b c = max a (max b c) := by unfold max3; omega
theorem min3_is (a b c : Int) : min3 a b c = min a (min b c) := by unfold min3; omega
def In12 (a : Int) : Prop := 0 ≤ a ∧ a ≤ 12
def allB (n : Nat) (f : Nat → Bool) : Bool := n.rec true fun k r => f k && r
theorem allB_at {f : Nat → Bool} : ∀ {n : Nat}, allB n f = true → ∀ k, k < n → f k = true
  | 0, _, k, h => absurd h (Nat.not_lt_zero k)
  | n + 1, e, k, h => by
    have e' : (f n && allB n f) = true := e
    obtain ⟨e1, e2⟩ := Bool.and_eq_true_iff.mp e'
    rcases Nat.lt_succ_iff_lt_or_eq.mp h with h | rfl
    · exact allB_at e2 k h
    · exact e1
/-- a fact of two small ints, out of a table -/
theorem tab2 {f : Nat → Nat → Bool} (h : (allB 13 fun i => allB 13 fun j => f i j) = true) {a b : Int} (ha : In12 a) (hb : In12 b) : f a.toNat b.toNat = true :=
  allB_at (allB_at h a.toNat (by have := ha.1; have := ha.2; omega)) b.toNat (by have := hb.1; have := hb.2; omega)
theorem tab3 {f : Nat → Nat → Nat → Bool} (h : (allB 13 fun i => allB 13 fun j => allB 13 fun k => f i j k) = true) {a b c : Int} (ha : In12 a) (hb : In12 b) (hc : In12 c) : f a.toNat b.toNat c.toNat = true :=
  allB_at (allB_at (allB_at h a.toNat (by have := ha.1; have := ha.2; omega)) b.toNat (by have := hb.1; have := hb.2; omega)) c.toNat (by have := hc.1; have := hc.2; omega)
theorem toNat_back {a : Int} (ha : In12 a) : ((a.toNat : Nat) : Int) = a := by have := ha.1; omega
theorem cmp_tab : (allB 13 fun i => allB 13 fun j => Float64.cmp (fr i) (fr j) == some (compare (i : Int) (j : Int))) = true := by decide +kernel
theorem cmp_fr {a b : Int} (ha : In12 a) (hb : In12 b) : Float64.cmp (fr a) (fr b) = some (compare a b) := by
  have h := tab2 cmp_tab ha hb
  simp only [toNat_back ha, toNat_back hb] at h
  exact eq_of_beq h
theorem ltV_fr {a b : Int} {t u : Tok} (ha : In12 a) (hb : In12 b) : ltV (.float (fr a) t) (.float (fr b) u) = decide (a < b) := by
  show (Float64.cmp (fr a) (fr b) == some .lt) = _
  rw [cmp_fr ha hb]
  by_cases h : a < b
  · rw [Int.compare_eq_lt.mpr h]; simp [h]
  · have : compare a b ≠ .lt := fun e => h (Int.compare_eq_lt.mp e)
    cases q : compare a b <;> simp_all
section
variable {prog : Program} {w : World} {A : Around} {E : Value → Shared → Prop} {s : Shared}
theorem max_three_num {Q : Value → Shared → Prop} {a b c : Value} (hh : A.handled = none) (ha : NumV a) (hb : NumV b) (hc : NumV c)
    (h : ∀ h' tk, (∀ c o, s.heap.get? c = some o → h'.get? c = some o) → Q (if ltV a b then (if ltV b c then c else b) else (if ltV a c then c else a)) { s with heap := h', toks := tk }) :
    wpAny (model prog w) A (call (.builtin "max") [a, b, c]) Q E s := by
  have hT : (s.heap.push { cls := .type "tuple", data := .seq #[a, b, c] }).IsTuple s.heap.objs.size #[a, b, c] := ⟨_, Heap.get?_push_size _ rfl, rfl, 0, rfl⟩
  refine call_max_three (wpAny_pyIter_tuple hT ?_)
  have hsz : (s.heap.push { cls := .type "tuple", data := .seq #[a, b, c] }).objs.size = s.heap.objs.size + 1 := Heap.size_push ..
  refine ⟨_, [_, s.heap.objs.size], [_], _, _, _, _, rfl, Walks.tuple (A := A.in1) hh _ s.heap.objs.size (by rw [hsz]; exact Nat.ne_of_lt (Nat.lt_succ_self _)) #[a, b, c],
    ⟨⟨_, Heap.get?_push_size _ rfl, rfl, rfl⟩, hT.push _⟩, fun c hc => ?_, by simp, cmpOf_gt #[a, b, c] (by simp [ha, hb, hc]), fun v h' tk hP hk => ?_⟩
  · show c < ((s.heap.push _).push _).objs.size
    rw [Heap.size_push, hsz]
    rcases List.mem_cons.mp hc with rfl | hc
    · rw [hsz]; exact Nat.lt_succ_self _
    · rcases List.mem_cons.mp hc with rfl | hc
      · exact Nat.lt_succ_of_lt (Nat.lt_succ_self _)
      · cases hc
  · have hold : ∀ c o, s.heap.get? c = some o → h'.get? c = some o := fun c o e => by
      refine hk c o (fun hm => ?_) (Heap.get?_push_of_some _ (Heap.get?_push_of_some _ e))
      rcases List.mem_cons.mp hm with e1 | hm
      · have := Heap.lt_size e; rw [e1, hsz] at this; exact Nat.lt_irrefl _ (Nat.lt_of_succ_lt this)
      · cases hm
    have := h h' tk hold
    have hv : v = if ltV a b then (if ltV b c then c else b) else (if ltV a c then c else a) := by
      cases h1 : ltV a b <;> cases h2 : ltV b c <;> cases h3 : ltV a c <;> simp [argBest, h1, h2, h3] at hP <;> simp [hP]
    rw [hv]; exact this
theorem min_three_num {Q : Value → Shared → Prop} {a b c : Value} (hh : A.handled = none) (ha : NumV a) (hb : NumV b) (hc : NumV c)
    (h : ∀ h' tk, (∀ c o, s.heap.get? c = some o → h'.get? c = some o) → Q (if ltV b a then (if ltV c b then c else b) else (if ltV c a then c else a)) { s with heap := h', toks := tk }) :
    wpAny (model prog w) A (call (.builtin "min") [a, b, c]) Q E s := by
  have hT : (s.heap.push { cls := .type "tuple", data := .seq #[a, b, c] }).IsTuple s.heap.objs.size #[a, b, c] := ⟨_, Heap.get?_push_size _ rfl, rfl, 0, rfl⟩
  refine call_min_three (wpAny_pyIter_tuple hT ?_)
  have hsz : (s.heap.push { cls := .type "tuple", data := .seq #[a, b, c] }).objs.size = s.heap.objs.size + 1 := Heap.size_push ..
  refine ⟨_, [_, s.heap.objs.size], [_], _, _, _, _, rfl, Walks.tuple (A := A.in1) hh _ s.heap.objs.size (by rw [hsz]; exact Nat.ne_of_lt (Nat.lt_succ_self _)) #[a, b, c],
    ⟨⟨_, Heap.get?_push_size _ rfl, rfl, rfl⟩, hT.push _⟩, fun c hc => ?_, by simp, cmpOf_lt #[a, b, c] (by simp [ha, hb, hc]), fun v h' tk hP hk => ?_⟩
  · show c < ((s.heap.push _).push _).objs.size
    rw [Heap.size_push, hsz]
    rcases List.mem_cons.mp hc with rfl | hc
    · rw [hsz]; exact Nat.lt_succ_self _
    · rcases List.mem_cons.mp hc with rfl | hc
      · exact Nat.lt_succ_of_lt (Nat.lt_succ_self _)
      · cases hc
  · have hold : ∀ c o, s.heap.get? c = some o → h'.get? c = some o := fun c o e => by
      refine hk c o (fun hm => ?_) (Heap.get?_push_of_some _ (Heap.get?_push_of_some _ e))
      rcases List.mem_cons.mp hm with e1 | hm
      · have := Heap.lt_size e; rw [e1, hsz] at this; exact Nat.lt_irrefl _ (Nat.lt_of_succ_lt this)
      · cases hm
    have := h h' tk hold
    have hv : v = if ltV b a then (if ltV c b then c else b) else (if ltV c a then c else a) := by
      cases h1 : ltV b a <;> cases h2 : ltV c b <;> cases h3 : ltV c a <;> simp [argBest, h1, h2, h3] at hP <;> simp [hP]
    rw [hv]; exact this
theorem max_fr {Q : Value → Shared → Prop} {a b c : Int} {t u v : Tok} {h₀ : Heap} {L : Addr} {m : Str → Option Value} {news : List (Addr × Obj)} (hh : A.handled = none) (F : Fr h₀ L s.heap m) (N : News h₀ L s.heap news)
    (ha : In12 a) (hb : In12 b) (hc : In12 c)
    (h : ∀ h' tk v, Fr h₀ L h' m → News h₀ L h' news → Q (.float (fr (max3 a b c)) v) { s with heap := h', toks := tk }) :
    wpAny (model prog w) A (call (.builtin "max") [.float (fr a) t, .float (fr b) u, .float (fr c) v]) Q E s := by
  refine max_three_num hh (.float _ _) (.float _ _) (.float _ _) fun h' tk kp => ?_
  have F' := F.grownK kp
  have N' := N.grown kp
  simp only [ltV_fr, ha, hb, hc, decide_eq_true_eq]
  unfold max3 at h
  by_cases h1 : a < b <;> by_cases h2 : b < c <;> by_cases h3 : a < c <;> simp only [h1, h2, h3, if_true, if_false] at h ⊢ <;> exact h _ _ _ F' N'
theorem min_fr {Q : Value → Shared → Prop} {a b c : Int} {t u v : Tok} {h₀ : Heap} {L : Addr} {m : Str → Option Value} {news : List (Addr × Obj)} (hh : A.handled = none) (F : Fr h₀ L s.heap m) (N : News h₀ L s.heap news)
    (ha : In12 a) (hb : In12 b) (hc : In12 c)
    (h : ∀ h' tk v, Fr h₀ L h' m → News h₀ L h' news → Q (.float (fr (min3 a b c)) v) { s with heap := h', toks := tk }) :
    wpAny (model prog w) A (call (.builtin "min") [.float (fr a) t, .float (fr b) u, .float (fr c) v]) Q E s := by
  refine min_three_num hh (.float _ _) (.float _ _) (.float _ _) fun h' tk kp => ?_
  have F' := F.grownK kp
  have N' := N.grown kp
  simp only [ltV_fr, ha, hb, hc, decide_eq_true_eq]
  unfold min3 at h
  by_cases h1 : b < a <;> by_cases h2 : c < b <;> by_cases h3 : c < a <;> simp only [h1, h2, h3, if_true, if_false] at h ⊢ <;> exact h _ _ _ F' N'
end
end Mine
end

-- FlB
section
theorem Mine.fresh_FlB : True := by (w_top off; exact True.intro)
open PySem PySem.W PyProof.Rows PySem.Flt
namespace Mine
/-- what rgb_to_hls tells of three whole parts, as 32nds -/
def hueOf (x y z : Int) : UInt64 :=
  let mx := fr (max3 x y z)
  let rg := Float64.sub (fr (max3 x y z)) (fr (min3 x y z))
  (Float64.divmod (Float64.div
    (if x = max3 x y z then Float64.sub (Float64.div (Float64.sub mx (fr z)) rg) (Float64.div (Float64.sub mx (fr y)) rg)
     else if y = max3 x y z then Float64.sub (Float64.add 4611686018427387904 (Float64.div (Float64.sub mx (fr x)) rg)) (Float64.div (Float64.sub mx (fr z)) rg)
     else Float64.sub (Float64.add 4616189618054758400 (Float64.div (Float64.sub mx (fr y)) rg)) (Float64.div (Float64.sub mx (fr x)) rg)) 4618441417868443648) 4607182418800017408).2
def lightOf (i j : Int) : UInt64 := Float64.div (Float64.add (fr i) (fr j)) 4611686018427387904
def shareOf (i j : Int) : UInt64 := Float64.div (Float64.sub (fr i) (fr j)) (Float64.add (fr i) (fr j))
def hls (x y z : Int) : UInt64 × UInt64 × UInt64 :=
  if min3 x y z = max3 x y z then (0, lightOf (max3 x y z) (min3 x y z), 0) else (hueOf x y z, lightOf (max3 x y z) (min3 x y z), shareOf (max3 x y z) (min3 x y z))
def tup3 (k : UInt64 × UInt64 × UInt64) (t1 t2 t3 : Tok) : Obj := { cls := .type "tuple", data := .seq #[.float k.1 t1, .float k.2.1 t2, .float k.2.2 t3] }
theorem max12 {x y z : Int} (hx : In12 x) (hy : In12 y) (hz : In12 z) : In12 (max3 x y z) := by unfold max3; split <;> split <;> assumption
theorem min12 {x y z : Int} (hx : In12 x) (hy : In12 y) (hz : In12 z) : In12 (min3 x y z) := by unfold min3; split <;> split <;> assumption
theorem eq_fr {a b : Int} {k : Bool} (ha : In12 a) (hb : In12 b) (h : (Float64.cmp (fr a) (fr b) == some .eq) = k) : k = true ↔ a = b := by
  rw [cmp_fr ha hb] at h
  subst h
  constructor
  · intro e
    have e' : compare a b = .eq := by simpa using e
    exact Int.compare_eq_eq.mp e'
  · rintro rfl
    simp
theorem sub_tab : (allB 13 fun i => allB 13 fun j => Float64.isZero (Float64.sub (fr i) (fr j)) == decide (i = j)) = true := by decide +kernel
theorem add_tab : (allB 13 fun i => allB 13 fun j => Float64.isZero (Float64.add (fr i) (fr j)) == decide (i = 0 ∧ j = 0)) = true := by decide +kernel
theorem le_tab : (allB 13 fun i => allB 13 fun j => Float64.cmp (lightOf i j) 4602678819172646912 == some .lt) = true := by decide +kernel
theorem toNat_inj {a b : Int} (ha : In12 a) (hb : In12 b) (h : a.toNat = b.toNat) : a = b := by have := ha.1; have := hb.1; omega
theorem sub_z {a b : Int} (ha : In12 a) (hb : In12 b) (h : Float64.isZero (Float64.sub (fr a) (fr b)) = true) : a = b := by
  have e := tab2 sub_tab ha hb
  simp only [toNat_back ha, toNat_back hb, h] at e
  have : a.toNat = b.toNat := by simpa using e
  exact toNat_inj ha hb this
theorem add_z {a b : Int} (ha : In12 a) (hb : In12 b) (h : Float64.isZero (Float64.add (fr a) (fr b)) = true) : a = b := by
  have e := tab2 add_tab ha hb
  simp only [toNat_back ha, toNat_back hb, h] at e
  have : a.toNat = 0 ∧ b.toNat = 0 := by simpa using e
  exact toNat_inj ha hb (by omega)
theorem light_le {a b : Int} {k : Bool} (ha : In12 a) (hb : In12 b) (h : (Float64.cmp (Float64.div (Float64.add (fr a) (fr b)) 4611686018427387904) 4602678819172646912 == some Ordering.lt || Float64.cmp (Float64.div (Float64.add (fr a) (fr b)) 4611686018427387904) 4602678819172646912 == some Ordering.eq) = k) : k = true := by
  have e := tab2 le_tab ha hb
  simp only [toNat_back ha, toNat_back hb] at e
  have e' := eq_of_beq e
  unfold lightOf at e'
  rw [e'] at h
  simpa using h.symm
section
variable {x y z : Int} (hx : In12 x) (hy : In12 y) (hz : In12 z)
include hx hy hz
theorem hls_grey (h : (Float64.cmp (fr (min3 x y z)) (fr (max3 x y z)) == some .eq) = true) : hls x y z = (0, Float64.div (Float64.add (fr (max3 x y z)) (fr (min3 x y z))) 4611686018427387904, 0) := by
  have e := (eq_fr (min12 hx hy hz) (max12 hx hy hz) h).mp rfl
  unfold hls; rw [if_pos e]; rfl
theorem hls_no (h : (Float64.cmp (fr (min3 x y z)) (fr (max3 x y z)) == some .eq) = false) : min3 x y z ≠ max3 x y z := fun e => by
  have := (eq_fr (min12 hx hy hz) (max12 hx hy hz) h).mpr e
  cases this
theorem no_sub (h : (Float64.cmp (fr (min3 x y z)) (fr (max3 x y z)) == some .eq) = false) (q : Float64.isZero (Float64.sub (fr (max3 x y z)) (fr (min3 x y z))) = true) : False :=
  hls_no hx hy hz h (sub_z (max12 hx hy hz) (min12 hx hy hz) q).symm
theorem no_add (h : (Float64.cmp (fr (min3 x y z)) (fr (max3 x y z)) == some .eq) = false) (q : Float64.isZero (Float64.add (fr (max3 x y z)) (fr (min3 x y z))) = true) : False :=
  hls_no hx hy hz h (add_z (max12 hx hy hz) (min12 hx hy hz) q).symm
theorem no_light (h : (Float64.cmp (Float64.div (Float64.add (fr (max3 x y z)) (fr (min3 x y z))) 4611686018427387904) 4602678819172646912 == some Ordering.lt || Float64.cmp (Float64.div (Float64.add (fr (max3 x y z)) (fr (min3 x y z))) 4611686018427387904) 4602678819172646912 == some Ordering.eq) = false) : False := by
  have := light_le (max12 hx hy hz) (min12 hx hy hz) h
  cases this
theorem hls_r (h : (Float64.cmp (fr (min3 x y z)) (fr (max3 x y z)) == some .eq) = false) (h1 : (Float64.cmp (fr x) (fr (max3 x y z)) == some .eq) = true) :
    hls x y z = ((Float64.divmod (Float64.div (Float64.sub (Float64.div (Float64.sub (fr (max3 x y z)) (fr z)) (Float64.sub (fr (max3 x y z)) (fr (min3 x y z)))) (Float64.div (Float64.sub (fr (max3 x y z)) (fr y)) (Float64.sub (fr (max3 x y z)) (fr (min3 x y z))))) 4618441417868443648) 4607182418800017408).2,
      Float64.div (Float64.add (fr (max3 x y z)) (fr (min3 x y z))) 4611686018427387904, Float64.div (Float64.sub (fr (max3 x y z)) (fr (min3 x y z))) (Float64.add (fr (max3 x y z)) (fr (min3 x y z)))) := by
  have e := (eq_fr hx (max12 hx hy hz) h1).mp rfl
  unfold hls hueOf; rw [if_neg (hls_no hx hy hz h)]; simp only [if_pos e]; rfl
theorem hls_g (h : (Float64.cmp (fr (min3 x y z)) (fr (max3 x y z)) == some .eq) = false) (h1 : (Float64.cmp (fr x) (fr (max3 x y z)) == some .eq) = false) (h2 : (Float64.cmp (fr y) (fr (max3 x y z)) == some .eq) = true) :
    hls x y z = ((Float64.divmod (Float64.div (Float64.sub (Float64.add 4611686018427387904 (Float64.div (Float64.sub (fr (max3 x y z)) (fr x)) (Float64.sub (fr (max3 x y z)) (fr (min3 x y z))))) (Float64.div (Float64.sub (fr (max3 x y z)) (fr z)) (Float64.sub (fr (max3 x y z)) (fr (min3 x y z))))) 4618441417868443648) 4607182418800017408).2,
      Float64.div (Float64.add (fr (max3 x y z)) (fr (min3 x y z))) 4611686018427387904, Float64.div (Float64.sub (fr (max3 x y z)) (fr (min3 x y z))) (Float64.add (fr (max3 x y z)) (fr (min3 x y z)))) := by
  have e : ¬ x = max3 x y z := fun e => by have := (eq_fr hx (max12 hx hy hz) h1).mpr e; cases this
  have e2 := (eq_fr hy (max12 hx hy hz) h2).mp rfl
  unfold hls hueOf; rw [if_neg (hls_no hx hy hz h)]; simp only [if_neg e, if_pos e2]; rfl
theorem hls_b (h : (Float64.cmp (fr (min3 x y z)) (fr (max3 x y z)) == some .eq) = false) (h1 : (Float64.cmp (fr x) (fr (max3 x y z)) == some .eq) = false) (h2 : (Float64.cmp (fr y) (fr (max3 x y z)) == some .eq) = false) :
    hls x y z = ((Float64.divmod (Float64.div (Float64.sub (Float64.add 4616189618054758400 (Float64.div (Float64.sub (fr (max3 x y z)) (fr y)) (Float64.sub (fr (max3 x y z)) (fr (min3 x y z))))) (Float64.div (Float64.sub (fr (max3 x y z)) (fr x)) (Float64.sub (fr (max3 x y z)) (fr (min3 x y z))))) 4618441417868443648) 4607182418800017408).2,
      Float64.div (Float64.add (fr (max3 x y z)) (fr (min3 x y z))) 4611686018427387904, Float64.div (Float64.sub (fr (max3 x y z)) (fr (min3 x y z))) (Float64.add (fr (max3 x y z)) (fr (min3 x y z)))) := by
  have e : ¬ x = max3 x y z := fun e => by have := (eq_fr hx (max12 hx hy hz) h1).mpr e; cases this
  have e2 : ¬ y = max3 x y z := fun e => by have := (eq_fr hy (max12 hx hy hz) h2).mpr e; cases this
  unfold hls hueOf; rw [if_neg (hls_no hx hy hz h)]; simp only [if_neg e, if_neg e2]; rfl
end
end Mine
end

-- CtT
section
theorem Mine.fresh_CtT : True := by (w_top off; exact True.intro)
namespace Mine
def Tk (n : Nat) (P : Prop) : Prop := 1 ≤ n → P
theorem Tk.in {n : Nat} {P : Prop} (h : 1 ≤ n → P) : Tk n P := h
theorem execs_cons_tk {prog : Program} {w : World} {A : Around} {env : Env} {st : Stmt} {rest : List Stmt} {Q : Flow → Shared → Prop} {E : Value → Shared → Prop} {s : Shared} (h0 : 1 ≤ s.toks)
    (h : wpAny (model prog w) A (exec st env) (fun f s' => Tk s'.toks (match f with | .next => wpAny (model prog w) A (execs rest env) Q E s' | f => Q f s')) E s) : wpAny (model prog w) A (execs (st :: rest) env) Q E s :=
  wpAny_execs_cons (wpAny_mono (wpAny_toks_of h0 h) (fun _ _ z => z.2 z.1) fun _ _ z => z.2)
local macro_rules | `(tactic| walk_at "execs cons") => `(tactic| (refine execs_cons_tk (by first | assumption | (dsimp only; omega)) ?_))
local macro_rules | `(tactic| walk_at "Tk") => `(tactic| (refine Tk.in ?_; intro htk; dsimp only at htk))
def OutHls (x y z : Int) (r : Value) (tl : List (Addr × Obj)) : Prop := ∃ q t1 t2 t3, r = .ref q ∧ tl = [(q, tup3 (hls x y z) t1 t2 t3)] ∧ (t3 == 0) = false
set_option maxHeartbeats 0 in
theorem rgb_ct (w : World) (x y z : Int) (t u v : Tok) (hx : In12 x) (hy : In12 y) (hz : In12 z) :
    Ct0 w 4 28 [.float (fr x) t, .float (fr y) u, .float (fr z) v] [] (OutHls x y z) := by
  unfold Ct0
  k_fill
  intro p loose mean mg mb dp un gd cn cs ad ccd cl outer A₀ base h₀ L m news s Q E B F X N T hk hd hu hn hret
  refine wpAny_call ?_
  k_dflt cell_enter
  k_steps
  refine max_fr (by rfl) (by assumption) (by assumption) hx hy hz fun h1 tk1 v1 F1 N1 => ?_
  k_steps
  refine min_fr (by rfl) (by assumption) (by assumption) hx hy hz fun h1 tk1 v1 F1 N1 => ?_
  k_steps
  all_goals first
    | exact (no_light hx hy hz (by assumption)).elim
    | exact (no_sub hx hy hz (by assumption) (by assumption)).elim
    | exact (no_add hx hy hz (by assumption) (by assumption)).elim
    | exact hret _ [_] _ _ (by assumption) (by assumption) (ord1 (by assumption)) ⟨_, _, _, _, rfl, by rw [hls_grey hx hy hz (by assumption)]; rfl, rfl⟩
    | exact hret _ [_] _ _ (by assumption) (by assumption) (ord1 (by assumption)) ⟨_, _, _, _, rfl, by rw [hls_r hx hy hz (by assumption) (by assumption)]; rfl, rfl⟩
    | exact hret _ [_] _ _ (by assumption) (by assumption) (ord1 (by assumption)) ⟨_, _, _, _, rfl, by rw [hls_g hx hy hz (by assumption) (by assumption) (by assumption)]; rfl, rfl⟩
    | exact hret _ [_] _ _ (by assumption) (by assumption) (ord1 (by assumption)) ⟨_, _, _, _, rfl, by rw [hls_b hx hy hz (by assumption) (by assumption) (by assumption)]; rfl, rfl⟩
    | skip
end Mine
end

-- CtU
section
theorem Mine.fresh_CtU : True := by (w_top off; exact True.intro)
namespace Mine
theorem inf_tab : (allB 13 fun i => !Float64.isInf (fr i)) = true := by decide +kernel
theorem no_inf {x : Int} (hx : In12 x) (h : Float64.isInf (fr x) = true) : False := by
  have e := allB_at inf_tab x.toNat (by have := hx.1; have := hx.2; omega)
  simp only [toNat_back hx, h] at e
  cases e
set_option maxHeartbeats 0 in
theorem told_ct (w : World) (x y z : Int) (t u v : Tok) (hx : In12 x) (hy : In12 y) (hz : In12 z) (l : Addr) (n : Nat) :
    Ct0 w 6 217 [.ref l] [(l, W.listOf #[.int x t, .int y u, .int z v] n)] (OutHls x y z) := by
  unfold Ct0
  k_fill
  intro p loose mean mg mb dp un gd cn cs ad ccd cl outer A₀ base h₀ L m news s Q E B F X N T hk hd hu hn hret
  have N0 := news_cons N (hn _ (List.mem_singleton.mpr rfl))
  clear N
  refine wpAny_call ?_
  k_dflt cell_enter
  k_steps
  · exact (no_inf hx (by assumption)).elim
  · exact (no_inf hy (by assumption)).elim
  · exact (no_inf hz (by assumption)).elim
  · refine' ct0_use (rgb_ct w x y z _ _ _ hx hy hz) ?k1 ?k2 ?k3 ?k4 ?k5 ?k6 ?k7 ?k8 ?k9 ?_
    case k1 => k_asm
    case k2 => k_asm
    case k3 => k_asm
    case k4 => k_asm
    case k5 => k_asm
    case k6 => first | exact rfl | assumption
    case k7 => ktr_room
    case k8 => ktr_units
    case k9 => exact fun _ h9 => nomatch h9
    intro r9 tl9 h9 tk9 F9 N9 o9 x9
    obtain ⟨q9, t91, t92, t93, e91, e92, e90⟩ := x9
    subst e91
    subst e92
    try dsimp only
    try simp only [List.cons_append, List.nil_append] at N9
    k_steps
    exact hret _ [_] _ _ (by assumption) (news_out (by assumption)) (ord2 (by exact fun p hp => o9 _ (.head _) p hp)) ⟨_, _, _, _, rfl, rfl, e90⟩
end Mine
end

-- CtF
section
theorem Mine.fresh_CtF : True := by (w_top off; exact True.intro)
namespace Mine
open PySem.SeqAt
theorem index3 {prog : Program} {w : World} {A : Around} {E : Value → Shared → Prop} {s : Shared} {l : Addr} {x y z k : Int} {t u v tk : Tok} {n : Nat} {Q : Value → Shared → Prop}
    (hl : s.heap.get? l = some (W.listOf #[.int x t, .int y u, .int z v] n)) (j : Nat) (hj : [x, y, z].idxOf k = j) (hk : k ∈ [x, y, z]) (h : Q (.int (j : Int) s.toks) { s with toks := s.toks + 1 }) :
    wpAny (model prog w) A (call (.builtin "list.index") [.ref l, .int k tk]) Q E s := by
  have hi : IntsAre [.int x t, .int y u, .int z v] [x, y, z] := .cons _ _ (.cons _ _ (.cons _ _ .nil))
  have hlen := hi.length
  have hj' : [x, y, z].idxOf k < [x, y, z].length := List.idxOf_lt_length_iff.mpr hk
  subst hj
  refine call_meets PySem.F.slot_list_index ⟨_, hl, rfl⟩ PySem.F.entry_list_index (PySem.F.args_list_index_2 _ _)
    (list_indexAt l [Value.int x t, .int y u, .int z v].toArray n none #[] (.int k tk) (isInt k) ([x, y, z].idxOf k) (by simpa [hlen] using hj') (by simp only [List.length_cons, List.length_nil] at hj'; omega) ?_ ?_) ⟨hl, fun y hy => (eq_isInt k tk hi y (by simpa using hy)).at _ _, h⟩
  · show isInt k [Value.int x t, .int y u, .int z v][[x, y, z].idxOf k] = true
    rw [isInt_at k hi _ (by omega) hj']
    simpa using List.getElem_idxOf hj'
  · intro j hjs hlt
    show isInt k [Value.int x t, .int y u, .int z v][j] = false
    rw [isInt_at k hi j (by simpa using hjs) (by simpa using hjs)]
    exact ne_of_lt_idxOf hlt _
theorem idx0 {x y z k : Int} (h : x = k) : [x, y, z].idxOf k = 0 := by subst h; simp
theorem idx1 {x y z k : Int} (h : ¬ x = k) (h1 : y = k) : [x, y, z].idxOf k = 1 := by
  subst h1
  rw [List.idxOf_cons, show (x == y) = false from by simpa using h]
  simp
theorem idx2 {x y z k : Int} (h : ¬ x = k) (h1 : ¬ y = k) (h2 : z = k) : [x, y, z].idxOf k = 2 := by
  subst h2
  rw [List.idxOf_cons, show (x == z) = false from by simpa using h, List.idxOf_cons, show (y == z) = false from by simpa using h1]
  simp
def place3 (x y z : Int) : Int := if x = max3 x y z then 0 else if y = max3 x y z then 1 else 2
def at3 (x y z i : Int) : Int := [x, y, z].getD (i.fmod 3).toNat 0
def turned (x y z sp : Int) : Int := (2 * place3 x y z * sp + at3 x y z (place3 x y z + 1) - at3 x y z (place3 x y z + 2)).fmod (6 * if 1 > sp then 1 else sp)
def OutFt (x y z sp : Int) (r : Value) (tl : List (Addr × Obj)) : Prop := ∃ q t1 t2 t3 n, r = .ref q ∧ tl = [(q, W.listOf #[.int (max3 x y z + min3 x y z) t1, .int sp t2, .int (turned x y z sp) t3] n)]
theorem lst3_eq {q : Addr} {n : Nat} {a a' b c c' : Int} {t1 t2 t3 : Tok} (h : a = a') (h2 : c = c') : [(q, W.listOf #[.int a t1, .int b t2, .int c t3] n)] = [(q, W.listOf #[.int a' t1, .int b t2, .int c' t3] n)] := by rw [h, h2]
theorem ordA {news : List (Addr × Obj)} {q l : Addr} {o : Obj} (h : l < q ∧ AllLt q news) : ∀ p ∈ [(q, o)], ∀ r ∈ news, r.1 < p.1 := ord1 (ktn_ltOf h.2)
set_option maxHeartbeats 0 in
theorem foretold_ct (w : World) (x y z sp : Int) (t u v ts : Tok) (hx : In12 x) (hy : In12 y) (hz : In12 z) (hs : In12 sp) (l : Addr) (n : Nat) :
    Ct0 w 6 224 [.ref l, .int sp ts] [(l, W.listOf #[.int x t, .int y u, .int z v] n)] (OutFt x y z sp) := by
  unfold Ct0
  k_fill
  intro p loose mean mg mb dp un gd cn cs ad ccd cl outer A₀ base h₀ L m news s Q E B F X N T hk hd hu hn hret
  have N0 := news_cons N (hn _ (List.mem_singleton.mpr rfl))
  clear N
  obtain ⟨hx0, hx1⟩ := hx
  obtain ⟨hy0, hy1⟩ := hy
  obtain ⟨hz0, hz1⟩ := hz
  obtain ⟨hs0, hs1⟩ := hs
  refine wpAny_call ?_
  k_dflt cell_enter
  k_steps
  rename News _ _ _ _ => N1
  rename Int => M
  rename (_ = x ∨ _ = y ∨ _ = z) => a1
  rename (x ≤ _ ∧ y ≤ _ ∧ z ≤ _) => b1
  have hl := (N1 _ (.head _)).1
  by_cases e0 : x = M
  · have hp : place3 x y z = 0 := by unfold place3 max3; split <;> split <;> omega
    refine index3 hl 0 (idx0 e0) (by rw [e0]; simp) ?_
    try dsimp only
    k_steps
    exact hret _ [_] _ _ (by assumption) (news_out (by assumption)) (ordA (by assumption)) ⟨_, _, _, _, _, rfl, lst3_eq (by unfold max3 min3; (repeat' split) <;> omega) (by unfold turned at3; rw [hp]; rfl)⟩
  · by_cases e1 : y = M
    · have hp : place3 x y z = 1 := by unfold place3 max3; split <;> split <;> omega
      refine index3 hl 1 (idx1 e0 e1) (by rw [e1]; simp) ?_
      try dsimp only
      k_steps
      exact hret _ [_] _ _ (by assumption) (news_out (by assumption)) (ordA (by assumption)) ⟨_, _, _, _, _, rfl, lst3_eq (by unfold max3 min3; (repeat' split) <;> omega) (by unfold turned at3; rw [hp]; rfl)⟩
    · have e2 : z = M := by omega
      have hp : place3 x y z = 2 := by unfold place3 max3; split <;> split <;> omega
      refine index3 hl 2 (idx2 e0 e1 e2) (by rw [e2]; simp) ?_
      try dsimp only
      k_steps
      exact hret _ [_] _ _ (by assumption) (news_out (by assumption)) (ordA (by assumption)) ⟨_, _, _, _, _, rfl, lst3_eq (by unfold max3 min3; (repeat' split) <;> omega) (by unfold turned at3; rw [hp]; rfl)⟩
end Mine
end

-- CtE
section
local macro_rules | `(tactic| walk_at "idle 0") => `(tactic| skip)
theorem Mine.fresh_CtE : True := by (w_top off; exact True.intro)
namespace Mine
def absd (a b : Int) : Int := if a - b < 0 then -(a - b) else a - b
/-- Euclid by division: what it leaves and the quotients added up -/
def euc : Nat → Int → Int → Int → Int × Int
  | 0, _, g, q => (q, g)
  | n + 1, s, g, q => if 0 < s then euc n (g.fmod s) s (q + g.fdiv s) else (q, g)
theorem euc_fuel : ∀ (n m : Nat) (s g q : Int), 0 ≤ s → s.toNat ≤ n → s.toNat ≤ m → euc (n + 1) s g q = euc (m + 1) s g q := by
  intro n
  induction n with
  | zero =>
    intro m s g q h0 h1 _
    have hs : ¬ 0 < s := by omega
    simp only [euc, if_neg hs]
  | succ n ih =>
    intro m s g q h0 h1 h2
    by_cases hs : 0 < s
    · have hm0 := Int.fmod_nonneg_of_pos g hs
      have hm1 := Int.fmod_lt_of_pos g hs
      obtain ⟨k, rfl⟩ : ∃ k, m = k + 1 := ⟨m - 1, by omega⟩
      show (if 0 < s then euc (n + 1) (g.fmod s) s (q + g.fdiv s) else (q, g)) = (if 0 < s then euc (k + 1) (g.fmod s) s (q + g.fdiv s) else (q, g))
      rw [if_pos hs, if_pos hs]
      exact ih k _ _ _ hm0 (by omega) (by omega)
    · rw [euc, if_neg hs, euc, if_neg hs]
theorem euc_step {s g q : Int} (h : 0 < s) : euc (s.toNat + 1) s g q = euc ((g.fmod s).toNat + 1) (g.fmod s) s (q + g.fdiv s) := by
  have hm0 := Int.fmod_nonneg_of_pos g h
  have hm1 := Int.fmod_lt_of_pos g h
  show (if 0 < s then euc s.toNat (g.fmod s) s (q + g.fdiv s) else (q, g)) = _
  rw [if_pos h]
  obtain ⟨k, hk⟩ : ∃ k, s.toNat = k + 1 := ⟨s.toNat - 1, by omega⟩
  rw [hk]
  exact euc_fuel k _ _ _ _ hm0 (by omega) (Nat.le_refl _)
theorem euc_end {s g q : Int} (h : ¬ 0 < s) : euc (s.toNat + 1) s g q = (q, g) := by rw [euc, if_neg h]
/-- what _law_euclid tells -/
def small3 (x y z : Int) : Int := min3 (absd x y) (absd y z) (absd z x)
def great3 (x y z : Int) : Int := absd x y + absd y z + absd z x - small3 x y z - max3 (absd x y) (absd y z) (absd z x)
def eucOf (x y z : Int) : Int × Int := euc ((small3 x y z).toNat + 1) (small3 x y z) (great3 x y z) 0
def OutEuc (x y z : Int) (r : Value) (tl : List (Addr × Obj)) : Prop := ∃ q t1 t2, r = .ref q ∧ tl = [(q, { cls := .type "tuple", data := .seq #[.int (eucOf x y z).1 t1, .int (eucOf x y z).2 t2] })]
theorem take_two {ns : List Int} {ws : List Value} (h : ns.length = 0 + 1 + 1 + 1) (hi : IntsAre ws (ns.take 2)) : ∃ t1 t2, ws = [.int (ns.getD (Int.toNat 0) 0) t1, .int (ns.getD (Int.toNat 1) 0) t2] := by
  match ns, h with
  | [a, b, c], _ =>
    cases hi with
    | cons n t r => cases r with
      | cons n' t' r' => cases r' with
        | nil => exact ⟨t, t', rfl⟩
theorem perm_sum {a b : List Int} (h : a.Perm b) : a.sum = b.sum := by
  induction h with
  | nil => rfl
  | cons x _ ih => simp only [List.sum_cons, ih]
  | swap x y l => simp only [List.sum_cons]; omega
  | trans _ _ h1 h2 => rw [h1, h2]
theorem sum_three {ns : List Int} {a b c : Int} (h : ns.length = 0 + 1 + 1 + 1) (hp : ns.Perm [a, b, c]) : ns.getD (Int.toNat 0) 0 + ns.getD (Int.toNat 1) 0 + ns.getD (Int.toNat 2) 0 = a + b + c := by
  match ns, h with
  | [x, y, z], _ =>
    have e := perm_sum hp
    simp only [List.sum_cons, List.sum_nil] at e
    show x + y + z = _
    omega
theorem small_of {x y z p0 : Int} (b : (p0 = absd x y ∨ p0 = absd y z ∨ p0 = absd z x) ∧ p0 ≤ absd x y ∧ p0 ≤ absd y z ∧ p0 ≤ absd z x) : p0 = small3 x y z := by
  unfold small3 min3
  (repeat' split) <;> omega
theorem great_of {x y z p0 p1 p2 : Int} (h : p0 + p1 + p2 = absd x y + absd y z + absd z x) (b : (p0 = absd x y ∨ p0 = absd y z ∨ p0 = absd z x) ∧ p0 ≤ absd x y ∧ p0 ≤ absd y z ∧ p0 ≤ absd z x)
    (b2 : (p2 = absd x y ∨ p2 = absd y z ∨ p2 = absd z x) ∧ absd x y ≤ p2 ∧ absd y z ≤ p2 ∧ absd z x ≤ p2) : p1 = great3 x y z := by
  have e := small_of b
  have e2 : p2 = max3 (absd x y) (absd y z) (absd z x) := by unfold max3; (repeat' split) <;> omega
  unfold great3
  omega
theorem absd_nn (x y : Int) : 0 ≤ absd x y := by unfold absd; split <;> omega
theorem small3_nn (x y z : Int) : 0 ≤ small3 x y z := by
  have := absd_nn x y
  have := absd_nn y z
  have := absd_nn z x
  unfold small3 min3
  (repeat' split) <;> omega
theorem absd_le {x y : Int} (hx0 : 0 ≤ x) (hx1 : x ≤ 12) (hy0 : 0 ≤ y) (hy1 : y ≤ 12) : absd x y ≤ 12 := by unfold absd; split <;> omega
theorem great3_bd {x y z : Int} (hx0 : 0 ≤ x) (hx1 : x ≤ 12) (hy0 : 0 ≤ y) (hy1 : y ≤ 12) (hz0 : 0 ≤ z) (hz1 : z ≤ 12) : 0 ≤ great3 x y z ∧ great3 x y z ≤ 12 ∧ small3 x y z ≤ 12 := by
  have := absd_nn x y
  have := absd_nn y z
  have := absd_nn z x
  have := absd_le hx0 hx1 hy0 hy1
  have := absd_le hy0 hy1 hz0 hz1
  have := absd_le hz0 hz1 hx0 hx1
  unfold great3 small3 min3 max3
  (repeat' split) <;> omega
local macro_rules | `(tactic| walk_at "exec While Compare cons nil") => `(tactic| refine Stop.mk' ?_)
local macro_rules | `(tactic| walk_at "assign Tuple") => `(tactic| refine Stop.mk' ?_)
set_option maxHeartbeats 0 in
theorem euclid_ct (w : World) (x y z : Int) (t u v : Tok) (hx : In12 x) (hy : In12 y) (hz : In12 z) (l : Addr) (n : Nat) :
    Ct0 w 6 210 [.ref l] [(l, W.listOf #[.int x t, .int y u, .int z v] n)] (OutEuc x y z) := by
  unfold Ct0
  k_fill
  intro p loose mean mg mb dp un gd cn cs ad ccd cl outer A₀ base h₀ L m news s Q E B F X N T hk hd hu hn hret
  have N0 := news_cons N (hn _ (List.mem_singleton.mpr rfl))
  clear N
  obtain ⟨hx0, hx1⟩ := hx
  obtain ⟨hy0, hy1⟩ := hy
  obtain ⟨hz0, hz1⟩ := hz
  refine wpAny_call ?_
  k_dflt cell_enter
  k_steps
  refine Stop.out ?_
  rename (_ = 0 + 1 + 1 + 1) => hlen
  rename IntsAre _ (List.take 2 _) => hI
  obtain ⟨t1, t2, rfl⟩ := take_two hlen hI
  have hs3 := sum_three hlen (by assumption)
  rename News _ _ _ _ => N1
  refine kun_list (by assumption) N1 (N1.isList (.head _)) (by rfl) (by rfl) (by rfl) fun h' F' N' => ?_
  clear N1
  k_steps
  refine Stop.out ?_
  have e0 := small_of (x := x) (y := y) (z := z) (by assumption)
  have e1 := great_of (x := x) (y := y) (z := z) hs3 (by assumption) (by assumption)
  rename Fr _ _ _ _ => F1
  rename News _ _ _ _ => N1
  clear h'
  have hsm := small3_nn x y z
  have hbd := great3_bd hx0 hx1 hy0 hy1 hz0 hz1
  rw [e0, e1] at F1
  refine wpAny_While (my_while (fun k st => ∃ h' tk m' sm gr qu ts tg tq, st = (⟨h', s.gens, s.drawn, tk, s.os⟩ : Shared) ∧ Fr _ _ h' m' ∧ News _ _ h' _ ∧ m' (Str.ofString "small") = some (.int sm ts) ∧ m' (Str.ofString "great") = some (.int gr tg) ∧ m' (Str.ofString "quotients") = some (.int qu tq) ∧ 0 ≤ sm ∧ sm ≤ 12 ∧ 0 ≤ gr ∧ gr ≤ 12 ∧ k = sm.toNat ∧ euc (sm.toNat + 1) sm gr qu = eucOf x y z) ?turn _ ⟨_, _, _, small3 x y z, great3 x y z, 0, _, _, _, rfl, F1, N1, rfl, rfl, rfl, hsm, hbd.2.2, hbd.1, hbd.2.1, rfl, rfl⟩)
  clear F1 N1
  rintro k st ⟨h1, tk1, m1, sm, gr, qu, ts, tg, tq, rfl, F1, N1, q1, q2, q3, hnn, hsb, hgn, hgb, rfl, heuc⟩
  have F2 := fr3 F1 q1 q2 q3
  clear F1 q1 q2 q3
  k_steps
  · rename News _ _ _ _ => N3
    show Back _ _ _
    have hp : 0 < sm := by assumption
    have hm0 := Int.fmod_nonneg_of_pos gr hp
    have hm1 := Int.fmod_lt_of_pos gr hp
    exact ⟨(gr.fmod sm).toNat, by omega, _, _, _, gr.fmod sm, sm, qu + gr.fdiv sm, _, _, _, rfl, by assumption, cb_drop N3 (sub_tail sub_same), rfl, rfl, rfl, hm0, by omega, by omega, by omega, rfl, (euc_step hp).symm.trans heuc⟩
  · rename (_ < _ ∧ _) => hlt
    rename News _ _ _ _ => N3
    have hp : ¬ 0 < sm := by assumption
    rw [euc_end hp] at heuc
    exact hret _ [_] _ _ (by assumption) (cb_drop N3 (sub_keep (sub_tail (sub_tail (sub_tail (sub_tail sub_same)))))) (ord1 (ktn_ltOf (by obtain ⟨_, _, _, _, hlt⟩ := hlt; exact hlt))) ⟨_, _, _, rfl, by rw [← heuc]⟩
end Mine
end

-- StrT
section
theorem Mine.fresh_StrT : True := by (w_top off; exact True.intro)
namespace Mine
def padS (a b : Int) : Str := Txt.mul (Str.ofString " ") a ++ Str.ofString "|" ++ Txt.mul (Str.ofString " ") b
theorem len_tab : (allB 13 fun i => allB 13 fun j => (padS i j).length == i + 1 + j) = true := by decide +kernel
theorem item_tab : (allB 13 fun i => allB 13 fun j => allB 13 fun k => decide (i < k) || ((Txt.item (padS i j) k == Str.ofString " ") == (k != i))) = true := by decide +kernel
theorem item_tab2 : (allB 13 fun i => allB 13 fun j => allB 13 fun k => decide (j < k) || ((Txt.item (padS i j) ((i + j - k : Nat) : Int) == Str.ofString " ") == (k != j))) = true := by decide +kernel
theorem slice_tab : (allB 13 fun i => allB 13 fun j => Txt.slice (padS i j) (some ((min i j : Nat) : Int)) (some ((i + 1 + j - (j - min i j) : Nat) : Int)) == padS ((i - j : Nat) : Int) ((min i j : Nat) : Int)) = true := by decide +kernel
theorem pad_len {a b : Int} (ha : In12 a) (hb : In12 b) : ((padS a b).length : Int) = a + 1 + b := by
  have h := eq_of_beq (tab2 len_tab ha hb)
  simp only [toNat_back ha, toNat_back hb] at h
  rw [h]
  have := toNat_back ha
  have := toNat_back hb
  omega
theorem pad_front {a b i : Int} {k : Bool} (ha : In12 a) (hb : In12 b) (h0 : 0 ≤ i) (h1 : i ≤ a) (h : (Txt.item (padS a b) i == Str.ofString " ") = k) : k = true ↔ i < a := by
  have hi : In12 i := ⟨h0, by have := ha.2; omega⟩
  have e := tab3 item_tab ha hb hi
  simp only [toNat_back ha, toNat_back hb, toNat_back hi, h] at e
  have e1 : ¬ a.toNat < i.toNat := by omega
  simp only [e1, decide_false, Bool.false_or, beq_iff_eq] at e
  rw [e]
  simp only [bne_iff_ne, ne_eq]
  omega
theorem pad_back {a b i : Int} {k : Bool} (ha : In12 a) (hb : In12 b) (h0 : 0 ≤ i) (h1 : i ≤ b) (h : (Txt.item (padS a b) (a + b - i) == Str.ofString " ") = k) : k = true ↔ i < b := by
  have hi : In12 i := ⟨h0, by have := hb.2; omega⟩
  have e := tab3 item_tab2 ha hb hi
  have e2 : ((a.toNat + b.toNat - i.toNat : Nat) : Int) = a + b - i := by have := ha.1; have := hb.1; omega
  simp only [toNat_back ha, toNat_back hb, e2, h] at e
  have e1 : ¬ b.toNat < i.toNat := by omega
  simp only [e1, decide_false, Bool.false_or, beq_iff_eq] at e
  rw [e]
  simp only [bne_iff_ne, ne_eq]
  omega
theorem pad_slice {a b l r p q : Int} (ha : In12 a) (hb : In12 b) (hl : l = min a b) (hr : r = a + 1 + b - (b - min a b)) (hp : p = max (a - b) 0) (hq : q = min a b) : Txt.slice (padS a b) (some l) (some r) = padS p q := by
  have e := eq_of_beq (tab2 slice_tab ha hb)
  have e1 : ((min a.toNat b.toNat : Nat) : Int) = min a b := by have := ha.1; have := hb.1; omega
  have e2 : ((a.toNat + 1 + b.toNat - (b.toNat - min a.toNat b.toNat) : Nat) : Int) = a + 1 + b - (b - min a b) := by have := ha.1; have := hb.1; omega
  have e3 : ((a.toNat - b.toNat : Nat) : Int) = max (a - b) 0 := by have := ha.1; have := hb.1; omega
  simp only [toNat_back ha, toNat_back hb, e1, e2, e3] at e
  rw [hl, hr, hp, hq]
  exact e
end Mine
end

-- CtS
section
local macro_rules | `(tactic| walk_at "idle 0") => `(tactic| skip)
local macro_rules | `(tactic| walk_at "idle 1") => `(tactic| skip)
theorem Mine.fresh_CtS : True := by (w_top off; exact True.intro)
namespace Mine
local macro_rules | `(tactic| walk_at "exec While") => `(tactic| refine Stop.mk' ?_)
local macro_rules | `(tactic| walk_at "exec While BoolOp cons nil") => `(tactic| refine Stop.mk' ?_)
theorem hmin_of {a b i : Int} (ha : In12 a) (hb : In12 b) (h0 : 0 ≤ i) (h1 : i ≤ a) (h2 : i ≤ b) (h : (Txt.item (padS a b) i == Str.ofString " ") = false) : i = min a b := by
  have hfl : ¬ i < a := fun q => by
    have := (pad_front ha hb h0 h1 h).mpr q
    cases this
  omega
theorem back_no {a b i j : Int} (ha : In12 a) (hb : In12 b) (hmin : i = min a b) (h0 : 0 ≤ j) (h1 : i + j ≤ b) (hn : b - i - j ≠ 0) (h : (Txt.item (padS a b) (a + b - j) == Str.ofString " ") = false) : False := by
  have ha0 := ha.1
  have hb0 := hb.1
  have hfl : ¬ j < b := fun q => by
    have := (pad_back ha hb h0 (by omega) h).mpr q
    cases this
  omega
set_option maxHeartbeats 0 in
theorem strip_ct (w : World) (a b : Int) (t u : Tok) (ha : In12 a) (hb : In12 b) :
    Ct0 w 4 196 [.str (padS a b) t, .int b u] [] (fun r tl => tl = [] ∧ ∃ t', r = .str (padS (if 0 > a - b then 0 else a - b) (if b < a then b else a)) t') := by
  unfold Ct0
  k_fill
  intro p loose mean mg mb dp un gd cn cs ad ccd cl outer A₀ base h₀ L m news s Q E B F X N T hk hd hu hn hret
  have ⟨ha0, ha1⟩ := ha
  have ⟨hb0, hb1⟩ := hb
  have hlen := pad_len ha hb
  refine wpAny_call ?_
  k_dflt cell_enter
  k_steps
  refine Stop.out ?_
  rename Fr _ _ _ _ => F1
  rename News _ _ _ _ => N1
  refine wpAny_While (my_while (fun k st => ∃ h' tk m' i tl tm, st = (⟨h', s.gens, s.drawn, tk, s.os⟩ : Shared) ∧ Fr _ _ h' m' ∧ News _ _ h' _ ∧ m' (Str.ofString "s") = some (.str (padS a b) t) ∧ m' (Str.ofString "lpos") = some (.int i tl) ∧ m' (Str.ofString "amount") = some (.int (b - i) tm) ∧ 0 ≤ i ∧ i ≤ a ∧ i ≤ b ∧ k = (b - i).toNat) ?turn _ ⟨_, _, _, 0, _, _, rfl, F1, N1, rfl, rfl, by rw [Int.sub_zero]; rfl, by omega, by omega, by omega, rfl⟩)
  clear F1 N1
  rintro k st ⟨h1, tk1, m1, i, tl, tm, rfl, F1, N1, q1, q2, q3, hi0, hi1, hi2, rfl⟩
  have F2 := fr3 F1 q1 q2 q3
  clear F1 q1 q2 q3
  k_steps
  · rename News _ _ _ _ => N3
    show Back _ _ _
    have hlt := (pad_front ha hb hi0 hi1 (by assumption)).mp rfl
    have hne : b - i ≠ 0 := by assumption
    exact ⟨(b - (i + 1)).toNat, by omega, _, _, _, i + 1, _, _, rfl, by assumption, N3, rfl, rfl, by rw [← Int.sub_sub]; rfl, by omega, by omega, by omega, rfl⟩
  all_goals (
    have hmin : i = min a b := by first | omega | exact hmin_of ha hb hi0 hi1 hi2 (by assumption)
    refine Stop.out ?_
    rename Fr _ _ _ _ => F1
    rename News _ _ _ _ => N1
    rw [hlen] at F1
    refine wpAny_While (my_while (fun k st => ∃ h' tk m' j tm tr, st = (⟨h', s.gens, s.drawn, tk, s.os⟩ : Shared) ∧ Fr _ _ h' m' ∧ News _ _ h' _ ∧ m' (Str.ofString "s") = some (.str (padS a b) t) ∧ m' (Str.ofString "lpos") = some (.int i tl) ∧ m' (Str.ofString "amount") = some (.int (b - i - j) tm) ∧ m' (Str.ofString "rpos") = some (.int (a + b - j) tr) ∧ 0 ≤ j ∧ i + j ≤ b ∧ k = (b - i - j).toNat) ?_ _ ⟨_, _, _, 0, _, _, rfl, F1, N1, rfl, rfl, by rw [Int.sub_zero]; rfl, by rw [show a + b - 0 = a + 1 + b - 1 by omega]; rfl, by omega, by omega, rfl⟩)
    clear F1 N1
    rintro k st ⟨h1, tk1, m1, j, tm, tr, rfl, F1, N1, q1, q2, q3, q4, hj0, hj1, rfl⟩
    have F2 := fr4 F1 q1 q2 q3 q4 (by decide) (by decide) (by decide)
    clear F1 q1 q2 q3 q4
    k_steps
    all_goals first
      | exact (back_no ha hb hmin hj0 hj1 (by assumption) (by assumption)).elim
      | (have hz : b - i - j = 0 := by assumption
         exact hret _ [] _ _ (by assumption) (by assumption) (fun _ h => nomatch h) ⟨rfl, _, by rw [pad_slice (p := if 0 > a - b then 0 else a - b) (q := if b < a then b else a) ha hb hmin (by omega) (by split <;> omega) (by split <;> omega)]⟩)
      | (rename News _ _ _ _ => N3
         show Back _ _ _
         have hne : b - i - j ≠ 0 := by assumption
         exact ⟨(b - i - (j + 1)).toNat, by omega, _, _, _, j + 1, _, _, rfl, by assumption, N3, rfl, rfl, by rw [← Int.sub_sub]; rfl, by rw [← Int.sub_sub]; rfl, by omega, by omega, rfl⟩))
end Mine
end

-- Acc
section
theorem Mine.fresh_Acc : True := by (w_top off; exact True.intro)
namespace Mine
open PySem.W.X
abbrev accObj (dx : Addr) : Obj := { cls := .ref 185, dict := some dx, data := .seq #[] }
end Mine
end

-- AccN
section
theorem Mine.fresh_AccN : True := by (w_top off; exact True.intro)
namespace Mine
open PySem.W.X PySem.Calls PySem.Builtin Builtin.ObjectAttr
theorem new_args (a b : Value) : (match Manifest.signature? "list.__new__" with | some sg => Bind.checkArgs "list.__new__" sg ⟨[a, b], []⟩ | none => pure ()) = pure () := by kernel_rfl
theorem acc_new2 {w : World} {A : Around} {E : Value → Shared → Prop} {h : Heap} {g : Array GenState} {d : Drawn} {t : Nat} {os : OsState} {n : Int} {tk0 : Tok} {Q : Value → Shared → Prop} (X : (Mine.hd.heap_1 w.params).In h)
    (hq : Q (.ref (h.objs.size + 1)) ⟨(h.push emptyDict).push (accObj h.objs.size), g, d, t, os⟩) :
    wpAny (model PySem.Challenge.rw_wu0076_01.row.prog w) A (PySem.call (.builtin "list.__new__") [.ref 185, .int n tk0]) Q E ⟨h, g, d, t, os⟩ := by
  revert X
  k_fill
  intro X
  have hC := X 185 _ (by k_is)
  have typ := looks_instIn (M := model PySem.Challenge.rw_wu0076_01.row.prog w) X (v := .ref 185) (base := .type "type") (by k_is)
  have hm0 := looks_clsIn (M := model PySem.Challenge.rw_wu0076_01.row.prog w) X (C := 185) (by k_is)
  have hsub := looks_mroIn (M := model PySem.Challenge.rw_wu0076_01.row.prog w) X (C := 185) (base := .type "list") (by k_is)
  have hm : Looks (model PySem.Challenge.rw_wu0076_01.row.prog w) h (mroOf (.ref 185)) [.ref 185, .type "list", .type "object"] := hm0.andThen .now
  refine wpAny_call (codeAny_of_tree ?_)
  show wpAny _ _ (do checkBuiltinCall "list.__new__" ⟨[.ref 185, .int n tk0], []⟩; again (.builtin "list.__new__" ⟨[.ref 185, .int n tk0], []⟩)) _ _ _
  have hown := owner_list_new
  obtain ⟨sig, sg⟩ : ∃ sig, Manifest.signature? "list.__new__" = some sig := Option.isSome_iff_exists.mp (by decide +kernel)
  have args := new_args (.ref 185) (.int n tk0)
  rw [sg] at args
  dsimp only at args
  have made : Looks (model PySem.Challenge.rw_wu0076_01.row.prog w) h (Bind.madeBy (.ref 185)) (some "list.__new__") := by
    intro A Q E s k q
    unfold Bind.madeBy
    refine wpAny_bind (hm A _ E s k ?_)
    rw [List.forIn_cons]
    refine wpAny_bind (wpAny_bind (wpAny_bind (wpAny_bind (wpAny_loadPart (k _ _ hC) (wpAny_pure ?_)))))
    dsimp only
    exact wpAny_pure (wpAny_pure (wpAny_pure q))
  have base : Looks (model PySem.Challenge.rw_wu0076_01.row.prog w) h (Bind.staticBase (.ref 185)) (.ref 185) := by
    intro A Q E s k q
    unfold Bind.staticBase
    refine wpAny_bind (hm A _ E s k ?_)
    rw [List.forIn_cons]
    exact wpAny_bind (wpAny_bind (wpAny_bind (made A _ E s k (wpAny_pure (wpAny_pure (wpAny_pure q))))))
  have here : Looks (model PySem.Challenge.rw_wu0076_01.row.prog w) h (Bind.madeHere "list.__new__" (.ref 185)) () := base.andThen (made.andThen (Looks.of_pure (by simp only [Option.map_some, bne_self_eq_false, Bool.false_eq_true, if_false])))
  have kd : builtinKind "list.__new__" = some .builtinFn := by decide +kernel
  have sp : splitId "list.__new__" = some ("list", "__new__") := by decide +kernel
  refine wpAny_bind ?_
  simp only [checkBuiltinCall, kd, sp, sg]
  rw [args]
  repeat (first | simp only [bne_self_eq_false, Bool.false_eq_true, if_false] | lk)
  refine And.intro (plainId_quiet PySem.F.plain_list_new _) (codeAny_builtin_stack PySem.F.entry_list_new rfl fun p st => ?_)
  simp only [hown]
  repeat (first | simp only [bne_self_eq_false, Bool.false_eq_true, if_false] | lk)
  have hC2 := Heap.get?_push_of_some (accObj h.objs.size) (Heap.get?_push_of_some emptyDict hC)
  repeat lk
  rw [Heap.size_push]
  exact hq
end Mine
end

-- AccM
section
theorem Mine.fresh_AccM : True := by (w_top off; exact True.intro)
namespace Mine
open PySem.W.X PySem.Calls Builtin Builtin.ObjectAttr
set_option maxHeartbeats 0
theorem make_acc {w : World} {A : Around} {R : Result → Shared → Prop} {h : Heap} {g : Array GenState} {d : Drawn} {t : Nat} {os : OsState} {n : Int} {tk0 : Tok} (X : (Mine.hd.heap_1 w.params).In h)
    (hq : codeAny (model PySem.Challenge.rw_wu0076_01.row.prog w) (A.under (.builtin "type.__call__" ⟨[.ref 185, .int n tk0], []⟩)) (.call (.ref 122) ⟨[.ref (h.objs.size + 1), .int n tk0], []⟩) (InitBack (h.objs.size + 1) R) ⟨(h.push emptyDict).push (accObj h.objs.size), g, d, t, os⟩) :
    codeAny (model PySem.Challenge.rw_wu0076_01.row.prog w) A (.call (.ref 185) ⟨[.int n tk0], []⟩) R ⟨h, g, d, t, os⟩ := by
  revert X
  k_fill
  intro X
  have hC := X 185 _ (by k_is)
  have call := looks_specialIn (M := model PySem.Challenge.rw_wu0076_01.row.prog w) X (v := .ref 185) (name := "__call__") (by k_is)
  have typ := looks_instIn (M := model PySem.Challenge.rw_wu0076_01.row.prog w) X (v := .ref 185) (base := .type "type") (by k_is)
  have hm := looks_clsIn (M := model PySem.Challenge.rw_wu0076_01.row.prog w) X (C := 185) (by k_is)
  have hi := looks_findIn (M := model PySem.Challenge.rw_wu0076_01.row.prog w) X (t := .ref 185) (name := "__init__") (by k_is)
  have hsub := looks_mroIn (M := model PySem.Challenge.rw_wu0076_01.row.prog w) X (C := 185) (base := .ref 185) (by k_is)
  have hmro : Looks (model PySem.Challenge.rw_wu0076_01.row.prog w) h (mroOf (.ref 185)) [.ref 185, .type "list", .type "object"] := hm.andThen .now
  have made : Looks (model PySem.Challenge.rw_wu0076_01.row.prog w) h (Bind.madeBy (.ref 185)) (some "list.__new__") := by
    intro A Q E s k q
    unfold Bind.madeBy
    refine wpAny_bind (hmro A _ E s k ?_)
    rw [List.forIn_cons]
    refine wpAny_bind (wpAny_bind (wpAny_bind (wpAny_bind (wpAny_loadPart (k _ _ hC) (wpAny_pure ?_)))))
    dsimp only
    exact wpAny_pure (wpAny_pure (wpAny_pure q))
  have bf := fun self => bind_fn (M := model PySem.Challenge.rw_wu0076_01.row.prog w) (f := 122) X self (by k_is)
  refine codeAny_of_tree ?_
  show wpAny _ _ (callAny (.ref 185) _) _ _ _
  refine nd_load hC ?_
  show wpAny _ _ (callAny.viaDunder (.ref 185) _) _ _ _
  unfold callAny.viaDunder
  refine wpAny_bind (call.at ?_)
  dsimp only
  rw [tc_bind]
  refine wpAny_bind (wpAny_pure (wpAny_bind (wpAny_pure ?_)))
  refine wpAny_pure (a := Fin.again (.call (.builtin "type.__call__") ⟨[.ref 185, .int n tk0], []⟩)) (And.intro rfl ?_)
  refine codeAny_call_builtin_at (Code.quiet_builtin _ (by decide +kernel)) entry_typeCall (check_slot tc_kind tc_split typ (tc_args _ _ _) ?_)
  unfold Builtin.«type.__call__»
  repeat (first | (with_reducible refine Stop.mk' (P := wpAny _ _ (PySem.call _ _ _) _ _ _) ?_) | simp only [List.isEmpty_cons, Bool.false_eq_true, if_false] | lk)
  refine Stop.out ?_
  refine acc_new2 X ?_
  have kp : ∀ b o, h.get? b = some o → ((h.push emptyDict).push (accObj h.objs.size)).get? b = some o := fun b o e => Heap.get?_push_of_some _ (Heap.get?_push_of_some _ e)
  have hx : ((h.push emptyDict).push (accObj h.objs.size)).get? (h.objs.size + 1) = some (accObj h.objs.size) := by heap_get
  have t1 : Looks (model PySem.Challenge.rw_wu0076_01.row.prog w) ((h.push emptyDict).push (accObj h.objs.size)) (typeOf (.ref (h.objs.size + 1))) (.ref 185) := (Looks.ld hx).andThen .now
  have s1 := hsub.keeps kp
  have i1 := hi.keeps kp
  have b1 := (bf (.ref (h.objs.size + 1))).keeps kp
  unfold isInstance callSpecial? specialOf
  repeat (first | (with_reducible refine Stop.mk' (P := wpAny _ _ (PySem.call _ _ _) _ _ _) ?_) | simp only [List.isEmpty_cons, Bool.false_eq_true, if_false, Bool.not_true] | lk)
  refine Stop.out ?_
  refine wpAny_call ?_
  refine codeAny_mono hq fun r s' z => ?_
  rcases r with e | (v | _ | _ | _) <;> first | exact z | exact z.elim | skip
  obtain ⟨rfl, z⟩ := z
  exact wpAny_pure (wpAny_pure z)
end Mine
end

-- AccS
section
theorem Mine.fresh_AccS : True := by (w_top off; exact True.intro)
namespace Mine
open PySem.W.X PySem.Calls Builtin Builtin.ObjectAttr
theorem own_list : classOwn (.type "list") "__setattr__" = pure none := by
  first | kernel_rfl | skip
theorem refuse_list (self : Value) : refuseLoop self "__setattr__" [.type "list", .type "object"] = pure () := by
  kernel_rfl
end Mine
end

-- AccC
section
theorem Mine.fresh_AccC : True := by (w_top off; exact True.intro)
namespace Mine
open PySem.W.X PySem.Calls Builtin Builtin.ObjectAttr
section
variable {prog : Program} {w : World} {A : Around} {K : Frag} {C x : Addr} {s : Shared} {h₀ : Heap} {L : Addr} {m : Str → Option Value} {news : List (Addr × Obj)} {R : Result → Shared → Prop}
/-- the plain store of an attribute on an object of a class over list -/
theorem acc_store {ox od od' : Obj} {dx : Addr} {name : Str} {tk : Tok} {v : Value} {pre post : List (Addr × Obj)} {es : List DictEntry} {n : Nat} {cd : ClassData} (F : Fr h₀ L s.heap m) (N : News h₀ L s.heap (pre ++ (dx, od) :: post)) (X : K.In s.heap)
    (I : InstAt s.heap x ox C (some od)) (hd : ox.dict = some dx) (hc : clsIn K C = some cd) (hsub : mroIn K C (.type "object") = some true) (href : refuseLoop (.ref x) "__setattr__" cd.mro = pure ()) (ht : takerIn K C name = some none) (hh : cd.hasDict = true)
    (hl : (lookIn name od).isSome = true) (h1 : ∀ p ∈ pre, p.1 ≠ dx) (h2 : ∀ p ∈ post, p.1 ≠ dx)
    (e : Obj.putName name (PyData.keyHash w.params name) (.str name s.toks) v od = od') (e' : od'.data = .dict es.toArray n) (hz : es.length ≤ 1000)
    (h : ∀ h', Fr h₀ L h' m → News h₀ L h' (pre ++ (dx, od') :: post) → R (.ok (.ret .none)) { s with heap := h', toks := s.toks + 1 }) :
    codeAny (model prog w) A (.call (.builtin "object.__setattr__") ⟨[.ref x, .str name tk, v], []⟩) R s := by
  have SF := PySem.F.store_object
  have sub : Looks (model prog w) s.heap (isInstance (.ref x) (.type "object")) true := I.type.andThen (looks_mroIn X hsub)
  refine codeAny_call_builtin SF.slot.plain SF.entry (@check_slot (model prog w) _ _ s "object.__setattr__" "object" "__setattr__" (.ref x) [.str name tk, v] [] _ SF.kind SF.split sub (SF.args (.ref x) (.str name tk) v) ?_)
  obtain ⟨attr, ha, hr⟩ := Option.bind_eq_some_iff.mp ht
  have hm : Looks (model prog w) s.heap (mroOf (.ref C)) cd.mro := (looks_clsIn X hc).andThen .now
  have L3 : Looks (model prog w) s.heap (storeTaker? attr) none := by
    cases attr with
    | none => exact .now
    | some a =>
      obtain ⟨b, hb, hbn⟩ := Option.map_eq_some_iff.mp hr
      refine (looks_takesIn X hb).andThen ?_
      cases b <;> first | exact .now | cases hbn
  rw [osa_eq, refuse_eq]
  refine wpAny_bind (wpAny_bind (I.type.here (wpAny_bind (hm.here ?_))))
  rw [href]
  refine wpAny_pure (wpAny_bind (I.type.here (wpAny_bind ((looks_findIn X ha).here (wpAny_bind (L3.here ?_))))))
  obtain ⟨U1, U2⟩ := news_upd (f := Obj.putName name (PyData.keyHash w.params name) (.str name s.toks) v) F N h1 h2 e (by obtain ⟨_, _, dd, _⟩ := od'; cases e'; rfl)
  have D := (N (dx, od) (by simp)).1
  have D' := (U2 (dx, od') (by simp)).1
  obtain ⟨hx, hcl, hn, -⟩ := I
  obtain ⟨oc, odi, oda, osl⟩ := ox
  dsimp only at hcl hd
  subst hcl hd
  dsimp only
  refine wpAny_bind (wpAny_pure (wpAny_bind (wpAny_bind (wpAny_loadPart hx (wpAny_bind ((looks_clsIn X hc).here ?_))))))
  rw [hh]
  refine wpAny_pure (a := some dx) (wpAny_bind (wpAny_pure (wpAny_bind ?_)))
  unfold nsSet
  refine wpAny_bind (wpAny_bind (wpAny_askSetting (wpAny_pure (wpAny_bind (wpAny_mkText (wpAny_bind (wpAny_loadPart D ?_)))))))
  unfold lookIn at hl
  split at hl
  · rename_i es₀ n₀ q
    rw [q]
    dsimp only
    have c : (!es₀.any (·.key.isStr name) && es₀.any (·.refKey)) = false := by
      rw [← Array.any_toList, ← Array.any_toList]
      split at hl
      · rename_i en he
        rw [List.any_eq_true.mpr ⟨en, List.mem_of_find?_eq_some he, List.find?_some he⟩]; rfl
      · split at hl
        · cases hl
        · rename_i z; rw [Bool.not_eq_true] at z; rw [z, Bool.and_false]
    rw [aRefKeyMayBeTheName_at, c]
    refine wpAny_updatePart D ?_
    refine wpAny_bind (wpAny_lookBehind D' (by rw [e']; exact pastItsLine_dict (by rw [List.size_toArray, sizeLine_eq]; omega)) ?_)
    exact wpAny_pure (h _ U1 U2)
  · cases hl
end
theorem slot_wrapper_get : Slot "wrapper_descriptor" "__get__" "wrapper_descriptor.__get__" := .of (owner := "wrapper_descriptor") (n := "__get__") (by rw [typeLookup_type, builtinLookup_eq_fast]; kernel_rfl) (by decide +kernel) (by decide +kernel) (by decide +kernel)
  (by first | exact .inl (by decide +kernel) | exact .inr (by decide +kernel)) (by rw [isSubtype_type]; kernel_rfl)
theorem entry_wrapper_get : entryFor table "wrapper_descriptor.__get__" = some Builtin.«wrapper_descriptor.__get__» := entryFor_of_tree (by kernel_rfl)
theorem args_wrapper_get (a b c : Value) : argsOk "wrapper_descriptor.__get__" ⟨[a, b, c], []⟩ := by unfold argsOk; kernel_rfl
theorem type_list_init : typeOf (.builtin "list.__init__") = pure (.type "wrapper_descriptor") := by
  show builtinType _ = _
  rw [builtinType_eq_fast]; kernel_rfl
abbrev wrapObj (x : Addr) : Obj := { cls := .type "method-wrapper", data := .fields #[.builtin "list.__init__", .ref x] }
section
variable {prog : Program} {w : World} {A : Around} {E : Value → Shared → Prop} {h : Heap} {g : Array GenState} {d : Drawn} {t : Nat} {os : OsState}
theorem wrap_get {x dx C : Addr} {Q : PySem.Fin → Shared → Prop} (hx : h.get? x = some (accObj dx)) (hm : Looks (model prog w) h (mroOf (.ref 185)) [.ref 185, .type "list", .type "object"])
    (hq : Q (.done (.ret (.ref h.objs.size))) ⟨h.push (wrapObj x), g, d, t, os⟩) :
    wpAny (model prog w) A (Builtin.«wrapper_descriptor.__get__» ⟨[.builtin "list.__init__", .ref x, .ref C], []⟩) Q E ⟨h, g, d, t, os⟩ := by
  have ht : Looks (model prog w) h (typeOf (.ref x)) (.ref 185) := (Looks.ld hx).andThen .now
  have ct : ([.ref 185, .type "list", .type "object"] : List Value).contains (Value.type (".".intercalate ("list.__init__".cutAt '.').dropLast)) = true := by kernel_rfl
  unfold Builtin.«wrapper_descriptor.__get__»
  repeat (first | simp only [List.isEmpty_cons, Bool.false_eq_true, if_false, ct, Bool.not_true] | lk)
  exact hq
theorem super_ga_init {so D x dx : Addr} {l : List Value} {K : Frag} {tk : Tok} {Q : PySem.Fin → Shared → Prop}
    (hso : h.get? so = some { cls := .type "super", dict := none, data := .fields #[.ref D, .ref x, .ref 185], slots := #[] }) (hno : Looks (model prog w) h (opaqueClassAbove (.ref 185)) none)
    (hx : h.get? x = some (accObj dx)) (hC : Looks (model prog w) h (mroOf (.ref 185)) [.ref 185, .type "list", .type "object"]) (hl : (([.ref 185, .type "list", .type "object"] : List Value).dropWhile (· != .ref D)).drop 1 = l) (X : K.In h)
    (hf : alongIn K "__init__" l = some (some (.builtin "list.__init__"))) (hxC : x ≠ 185)
    (hq : Q (.done (.ret (.ref h.objs.size))) ⟨h.push (wrapObj x), g, d, t, os⟩) :
    wpAny (model prog w) A (Builtin.«super.__getattribute__» ⟨[.ref so, .str "__init__" tk], []⟩) Q E ⟨h, g, d, t, os⟩ := by
  have hlk := slot_wrapper_get.lookup
  have hne : (Value.ref x == Value.ref 185) = false := by simp [hxC]
  have hn : (("__init__" : Str) == ("__class__" : Str)) = false := by decide +kernel
  have hTf : (⟨h, g, d, t, os⟩ : Shared).TypeIs (.builtin "list.__init__") "wrapper_descriptor" := type_list_init
  have hdt : ({ cls := .type "super", dict := none, data := .fields #[.ref D, .ref x, .ref 185], slots := #[] } : Obj).data = .fields #[.ref D, .ref x, .ref 185] := rfl
  have f0 : (#[.ref D, .ref x, .ref 185] : Array Value)[0]? = some (.ref D) := rfl
  have f1 : (#[.ref D, .ref x, .ref 185] : Array Value)[1]? = some (.ref x) := rfl
  have f2 : (#[.ref D, .ref x, .ref 185] : Array Value)[2]? = some (.ref 185) := rfl
  unfold Builtin.«super.__getattribute__»
  repeat (first
    | (with_reducible refine wpAny_field hso hdt f0 ?_) | (with_reducible refine wpAny_field hso hdt f1 ?_) | (with_reducible refine wpAny_field hso hdt f2 ?_)
    | (with_reducible refine ks_wpAny_notOpaque hno ?_)
    | (with_reducible refine Looks.at hC ?_; rw [hl])
    | (refine ks_forIn_along X (fun _ _ => rfl) rfl ?_ hf)
    | (with_reducible refine wpAny_of_eq type_list_init ?_)
    | (with_reducible refine wpAny_of_eq hlk ?_)
    | (with_reducible refine wpAny_call_entry slot_wrapper_get hTf entry_wrapper_get ?_ (args_wrapper_get _ _ _))
    | (with_reducible refine wrap_get hx hC ?_)
    | (with_reducible refine ⟨_, rfl, ?_⟩)
    | (simp only [hn, hne, Bool.or_false, Bool.false_eq_true, if_false])
    | wp_step
    | dsimp only)
  all_goals exact hq
theorem get_super_init {so D x dx : Addr} {l : List Value} {K : Frag} {pl : Sem Bool} {Q : Value × List Value → Shared → Prop}
    (hso : h.get? so = some { cls := .type "super", dict := none, data := .fields #[.ref D, .ref x, .ref 185], slots := #[] }) (hno : Looks (model prog w) h (opaqueClassAbove (.ref 185)) none)
    (hx : h.get? x = some (accObj dx)) (hC : Looks (model prog w) h (mroOf (.ref 185)) [.ref 185, .type "list", .type "object"]) (hl : (([.ref 185, .type "list", .type "object"] : List Value).dropWhile (· != .ref D)).drop 1 = l) (X : K.In h)
    (hf : alongIn K "__init__" l = some (some (.builtin "list.__init__"))) (hxC : x ≠ 185)
    (hq : Q (.ref h.objs.size, []) ⟨h.push (wrapObj x), g, d, t + 1, os⟩) :
    wpAny (model prog w) A (getMethod (.ref so) "__init__" pl) Q E ⟨h, g, d, t, os⟩ := by
  have hlk := F.ks_slot_super_ga.lookup
  have hcan := F.ks_canon_super_ga
  have hT : ∀ t', (⟨h, g, d, t', os⟩ : Shared).TypeIs (.ref so) "super" := fun _ => ⟨_, hso, rfl⟩
  unfold getMethod
  refine wpAny_bind (wpAny_specialOf (hT _) hlk ?_)
  show wpAny _ _ (if (Manifest.canonical "super.__getattribute__" != "object.__getattribute__") = true then _ else _) _ _ _
  rw [if_pos hcan]
  unfold getAttr getAttrBy
  refine wpAny_bind (wpAny_bind (wpAny_mkText (wpAny_holding (wpAny_bind (wpAny_typeOf (hT _) (wpAny_bind (wpAny_of_eq hlk ?_)))))))
  show wpAny _ _ (getAttrByItsOwn (.ref so) (.str "__init__" t) (.type "super") (.builtin "super.__getattribute__") true false) _ _ _
  unfold getAttrByItsOwn hookBefore callGetattribute boundAndCalled
  refine wpAny_bind (wpAny_of_eq (show (if onTheHeap (.type "super") then typeLookup (.type "super") "__getattr__" else pure none) = pure none from rfl) ?_)
  refine wpAny_bind (wpAny_attempt (wpAny_holding ?_))
  show wpAny _ _ (bindSpecial (.builtin "super.__getattribute__") (.ref so) >>= _) _ _ _
  refine wpAny_bind (wpAny_of_eq (F.ks_slot_super_ga.bind _) ?_)
  refine wpAny_mono (Q := fun v s' => v = .ref h.objs.size ∧ s' = ⟨h.push (wrapObj x), g, d, t + 1, os⟩) (E := fun _ _ => False)
    (wpAny_call_entry F.ks_slot_super_ga (hT _) F.ks_entry_super_ga (super_ga_init hso hno hx hC hl X hf hxC ⟨_, rfl, rfl, rfl⟩) (F.ks_gaArgs_super _ _)) (fun v s' hv => ?_) fun _ _ z => z.elim
  obtain ⟨rfl, rfl⟩ := hv
  exact wpAny_pure (wpAny_pure hq)
end
end Mine
end

-- AccI
section
theorem Mine.fresh_AccI : True := by (w_top off; exact True.intro)
namespace Mine
open PySem.W.X PySem.Calls Builtin Builtin.ObjectAttr
theorem plain_list_init : Code.quiet (.builtin "list.__init__" ⟨[], []⟩) = true := by decide +kernel
section
variable {prog : Program} {w : World} {A : Around} {E : Value → Shared → Prop} {h : Heap} {g : Array GenState} {d : Drawn} {t : Nat} {os : OsState}
theorem call_wrap {q x dx : Addr} {Q : Value → Shared → Prop} (hw : h.get? q = some (wrapObj x)) (hx : h.get? x = some (accObj dx)) 
    (hq : ∀ h', h' = h.update x (Obj.mapSeq (fun _ => (#[] : Array Value))) → Q .none ⟨h', g, d, t, os⟩) :
    wpAny (model prog w) A (PySem.call (.ref q) []) Q E ⟨h, g, d, t, os⟩ := by
  refine wpAny_call (codeAny_of_tree ?_)
  show wpAny _ _ (callAny (.ref q) _) _ _ _
  refine nd_load hw ?_
  show wpAny _ _ (checkBoundCall "list.__init__" ⟨[.ref x], []⟩ >>= fun _ => again (.builtin "list.__init__" ⟨[.ref x], []⟩)) _ _ _
  refine wpAny_bind ?_
  refine wpAny_of_eq (show checkBoundCall "list.__init__" ⟨[.ref x], []⟩ = pure () by kernel_rfl) ?_
  refine wpAny_pure ⟨Code.quiet_builtin _ (by decide +kernel), codeAny_builtin PySem.F.entry_list_init ?_⟩
  show wpAny _ _ (do let old ← Builtin.List.listItems (.ref x); Builtin.List.listUpdate (.ref x) (fun _ => #[]); letGo old.toList.reverse; ret .none) _ _ _
  refine wpAny_bind ?_
  unfold Builtin.List.listItems
  refine wpAny_bind (wpAny_seqItems hx rfl (wpAny_pure ?_))
  refine wpAny_bind (wpAny_updateSeq hx rfl ?_)
  refine wpAny_bind (wpAny_letGo ?_)
  exact wpAny_pure (hq _ rfl)
end
end Mine
end

-- CtC
section
local macro_rules | `(tactic| walk_at "idle 0") => `(tactic| skip)
theorem Mine.fresh_CtC : True := by (w_top off; exact True.intro)
namespace Mine
open PySem.W.X
local macro_rules | `(tactic| walk_at "setAttr ref") => `(tactic| refine Stop.mk' ?_)
local macro_rules | `(tactic| walk_at "getMethod ref") => `(tactic| refine Stop.mk' ?_)
local macro_rules | `(tactic| walk_at "call ref") => `(tactic| refine Stop.mk' ?_)
local macro_rules | `(tactic| walk_at "wpAt") => `(tactic| (ks_step "attributeBase Call"; refine Stop.mk' ?_))
local macro_rules | `(tactic| k_room) => `(tactic| ktr_room)
local macro_rules | `(tactic| k_units) => `(tactic| ktr_units)
theorem acc_set {prog : Program} {w : World} {A : Around} {E : Value → Shared → Prop} {s : Shared} {K : Frag} {x dx L : Addr} {h₀ : Heap} {m : Str → Option Value} {news news' : List (Addr × Obj)} {ox : Obj} {es es' : List DictEntry} {n n' : Nat} {name : Str} {v : Value} {cd : ClassData} {Q : Unit → Shared → Prop} (F : Fr h₀ L s.heap m) (X₀ : K.In h₀) (N : News h₀ L s.heap news) (I : InstAt s.heap x ox 185 (some (dictOf es n))) (hd : ox.dict = some dx)
    (hs : findIn K (.ref 185) "__setattr__" = some (some (.builtin "object.__setattr__"))) (hc : clsIn K 185 = some cd) (hm : cd.mro = [.ref 185, .type "list", .type "object"]) (hsub : mroIn K 185 (.type "object") = some true) (ht : takerIn K 185 name = some none) (hh : cd.hasDict = true) (hl : (getL name es).isSome = true)
    (e : (putL name (PyData.keyHash w.params name) (.str name (s.toks + 1)) v es, putN name es n) = (es', n')) (U : Upd dx (dictOf es n) (dictOf es' n') news news') (hz : es'.length ≤ 1000)
    (h : ∀ h', Fr h₀ L h' m → News h₀ L h' news' → Q () { s with heap := h', toks := s.toks + 2 }) :
    wpAny (model prog w) A (setAttr (.ref x) name v) Q E s := by
  obtain ⟨pre, post, rfl, rfl, a, b⟩ := U.split
  obtain ⟨e1, e2⟩ := Prod.mk.inj e
  refine set_plain (X₀.keeps F.keep) I hs (acc_store (s := { s with toks := s.toks + 1 }) F N (X₀.keeps F.keep) I hd hc hsub (by rw [hm, refuseLoop_ref]; exact refuse_list _) ht hh hl a b (by rw [putName_dict, e1, e2]) rfl hz fun h' F' N' => h h' F' N')
theorem keeps_wrap {M : Model} {q x : Addr} : ∀ h : Heap, h.get? q = some (wrapObj x) → ∃ k, (k = Keeper.frame ∨ k = Keeper.machine ∨ k = Keeper.boundFrame) ∧ Looks M h (keeperOf (.ref q)) k := fun h ho => by
  refine ⟨.machine, .inr (.inl rfl), fun A Q E s k hq => ?_⟩
  unfold keeperOf
  refine wpAny_bind (wpAny_load (k _ _ ho) ?_)
  simp only [show (Value.type "method-wrapper" != Value.type "method") = true by decide, show (Value.type "method-wrapper" == Value.type "builtin_function_or_method" || Value.type "method-wrapper" == Value.type "method-wrapper") = true by decide, if_true]
  exact wpAny_pure hq
set_option maxHeartbeats 0 in
theorem acc_ct (w : World) (n : Int) (t : Tok) :
    Ct0 w 6 185 [.int n t] [] (fun r tl => ∃ x dx tk, r = .ref x ∧ dx < x ∧ tl = [(x, accObj dx), (dx, dictOf [⟨PyData.keyHash w.params "_initial_size", .str "_initial_size" tk, .int n t⟩] 1)]) := by
  unfold Ct0
  k_fill
  intro p loose mean mg mb dp un gd cn cs ad ccd cl outer A₀ base h₀ L m news s Q E B F X N T hk hd hu _ hret
  refine wpAny_call ?_
  obtain ⟨hh, g, d, tk, os⟩ := s
  refine make_acc (X.keeps F.keep) ?_
  have F1 := (F.push emptyDict).push (accObj hh.objs.size)
  have N1 := (N.push F emptyDict).push (F.push _) (accObj hh.objs.size)
  rw [Heap.size_push] at N1
  have l1 : ∀ p ∈ news, p.1 < hh.objs.size := fun p hp => Heap.lt_size (N p hp).1
  have l2 : hh.objs.size < hh.objs.size + 1 := Nat.lt_succ_self _
  clear F N
  revert F1 N1 l1 l2
  generalize (hh.push emptyDict).push (accObj hh.objs.size) = h1
  generalize hh.objs.size + 1 = x
  generalize hh.objs.size = dx
  intro F1 N1 l1 l2
  k_dflt (refine' ks_code_super ?k1 ?k2 ?k3 ?k4 ?k5 ?kA ?kF ?kK ?k6 ?k7 ?k8 ?k9 ?kB ?_ ?c1 ?c2 ?c3 ?c4; (case kA => exact rfl); (case kF => exact rfl); (case kK => assumption); (case k1 => k_asm); (case k2 => k_asm); (case k3 => k_asm); (case k4 => k_asm); (case k5 => k_asm); (case k6 => k_is); (case k7 => k_is); (case k8 => ktr_room); (case k9 => exact binds_K (by k_in) rfl (by k_is) rfl rfl rfl); (case kB => exact locs rfl); (case c1 => decide); (case c2 => exact rfl); (case c3 => exact rfl); (case c4 => exact rfl); intro g' L' h' FG' F' N' B' X' T' l3; (try k_lt l3); (try dsimp only); (try k_lift B'); (try k_fold))
  k_steps
  refine Stop.out ?_
  have I1 : InstAt h' x (accObj dx) 185 (some (dictOf [] 0)) := ⟨(N' _ (.head _)).1, rfl, rfl, (N' _ (.tail _ (.head _))).1⟩
  refine' acc_set (es' := [⟨PyData.keyHash w.params "_initial_size", .str "_initial_size" _, .int n t⟩]) (n' := 1) F' X' N' I1 rfl ?k1 ?k2 ?k3 ?k4 ?k5 ?k6 ?k7 ?k8 ?k9 ?k10 ?_
  case k1 => k_is
  case k2 => k_is
  case k3 => exact rfl
  case k4 => k_is
  case k5 => k_is
  case k6 => exact rfl
  case k7 => exact rfl
  case k8 => exact rfl
  case k9 => exact Upd.tail (Nat.ne_of_gt l2) (Upd.head fun p hp => Nat.ne_of_lt (l1 p hp))
  case k10 => exact Nat.le_of_ble_eq_true rfl
  intro h2 F2 N2
  dsimp only
  ks_step "execs cons"
  refine ks_wpAt_execs_cons ?_
  ks_step "exec Expr"
  refine ks_wpAt_Expr_any ?_
  ks_step "eval Call"
  refine ks_wpAt_MethodCall ?_
  have I2 : InstAt h2 x (accObj dx) 185 (some _) := ⟨(N2 _ (.head _)).1, rfl, rfl, (N2 _ (.tail _ (.head _))).1⟩
  refine' ks_node F2 X' N2 T' ?k1 ?k2 ?k3 I2 ?k5 ?k6 ?k7 ?k8 ?k9 ?k10 ?k11 ?k12 ?k13 ?k14 ?k15 ?k16 ?k17 ?k18 ?_
  case k1 => k_is
  case k2 => exact rfl
  case k3 => exact rfl
  case k5 => k_is
  case k6 => exact rfl
  case k7 => first | exact rfl | decide +kernel
  case k8 => k_is
  case k9 => k_is
  case k10 => k_is
  case k11 => k_is
  case k12 => decide
  case k13 => exact rfl
  case k14 => exact rfl
  case k15 => exact rfl
  case k16 => exact rfl
  case k17 => decide +kernel
  case k18 => first | boot_by_name | rfl | kernel_rfl
  intro so h3 F3 N3 l4
  dsimp only
  k_steps
  refine Stop.out ?_
  have X3 := X'.keeps F3.keep
  have hne : x ≠ 185 := ks_ne X3 (⟨(N3 _ (.tail _ (.head _))).1, rfl, rfl, (N3 _ (.tail _ (.tail _ (.head _)))).1⟩ : InstAt h3 x (accObj dx) 185 (some _)) (by k_is)
  have hC3 := looks_clsIn (M := model PySem.Challenge.rw_wu0076_01.row.prog w) X3 (C := 185) (by k_is)
  have hno : nsIn (Mine.hd.heap_1 w.params) cStatics "thirdparty.any" = some none := by k_is
  refine get_super_init (N3 _ (.head _)).1 (looks_opaque X3 hno) (N3 _ (.tail _ (.head _))).1 (hC3.andThen .now) rfl X3 (by kernel_rfl) hne ?_
  have F4 := F3.push (wrapObj x)
  have N4 := N3.push F3 (wrapObj x)
  have l5 : ∀ p ∈ (so, ks_superObj 185 x 185) :: (x, accObj dx) :: _, p.1 < h3.objs.size := fun p hp => Heap.lt_size (N3 p hp).1
  revert F4 N4 l5
  generalize h3.push (wrapObj x) = h4
  generalize h3.objs.size = wq
  intro F4 N4 l5
  k_steps
  refine callWith_of (P := fun h => h.get? wq = some (wrapObj x)) rfl keeps_wrap (evalArgs_nil3 ⟨(N4 _ (.head _)).1, ?_⟩)
  refine call_wrap (N4 _ (.head _)).1 (N4 _ (.tail _ (.tail _ (.head _)))).1 ?_
  intro h5 e5
  obtain ⟨F5, N5⟩ := news_upd (f := Obj.mapSeq (fun _ => (#[] : Array Value))) (o' := accObj dx) (pre := [(wq, wrapObj x), (so, ks_superObj 185 x 185)]) F4 N4 (by
      intro p hp
      rcases List.mem_cons.mp hp with rfl | hp
      · exact Nat.ne_of_gt (l5 _ (.tail _ (.head _)))
      · rw [List.mem_singleton.mp hp]; exact Nat.ne_of_gt (l4 _ (.head _))) (by
      intro p hp
      rcases List.mem_cons.mp hp with rfl | hp
      · exact Nat.ne_of_lt l2
      · exact Nat.ne_of_lt (Nat.lt_trans (l1 _ hp) l2)) rfl rfl
  rw [← e5] at F5 N5
  clear N4 F4 e5
  simp only [List.cons_append, List.nil_append] at N5
  k_steps
  rename News _ _ _ _ => kN
  refine hret _ [(x, accObj dx), (dx, dictOf _ 1)] _ _ (by assumption) (fun p hp => kN p (.tail _ (.tail _ hp))) ?_ ⟨x, dx, _, rfl, l2, rfl⟩
  intro p hp q hq
  rcases List.mem_cons.mp hp with rfl | hp
  · exact Nat.lt_trans (l1 _ hq) l2
  · rw [List.mem_singleton.mp hp]; exact l1 _ hq
end Mine
end

-- GenB
section
theorem Mine.fresh_GenB : True := by (w_top off; exact True.intro)
namespace Mine
open PySem.W.X PySem.Calls Builtin Builtin.ObjectAttr
theorem args_sum2 (a b : Value) : argsOk "sum" ⟨[a, b], []⟩ := by unfold argsOk; kernel_rfl
theorem sum_bind (b : Value) : Builtin.Builtins.bindParams "sum" ["start"] 0 ⟨[b], []⟩ = pure [some b] := by kernel_rfl
section
variable {prog : Program} {w : World} {A : Around} {E : Value → Shared → Prop} {s : Shared}
theorem wpAny_ite_pos {α : Type} {M : Model} {A : Around} {b : Bool} {t e : Sem α} {Q : α → Shared → Prop} {E : Value → Shared → Prop} {s : Shared} (hb : b = true) (h : wpAny M A t Q E s) : wpAny M A (if b = true then t else e) Q E s := by rw [if_pos hb]; exact h
theorem sum_empty {x : Value} {n : Int} {tn : Tok} {Q : Value → Shared → Prop} (hn : -(2 ^ 63) ≤ n ∧ n < 2 ^ 63)
    (h : wpAny (model prog w) A.in1 (pyIter x) (fun it s₂ => ∃ I fp wr G P St, it = .ref I ∧ WalksS prog w A.in1 I fp wr G 0 P St ∧ St 0 s₂ ∧ (∀ b ∈ fp, b < s₂.heap.objs.size) ∧
      ∀ s' t', Moved wr G s₂ s' → Q (.int n t') s') E s) :
    wpAny (model prog w) A (PySem.call (.builtin "sum") [x, .int n tn]) Q E s := by
  refine call_function_tree F.kind_sum F.plain_sum F.entry_sum (args_sum2 _ _) ?_
  unfold Builtin.«sum»
  simp only [List.length_cons, List.length_nil]
  rw [if_neg (by decide)]
  refine wpAny_bind (wpAny_of_eq (sum_bind (.int n tn)) ?_)
  refine wpAny_bind (wpAny_mono h (fun it s₂ h₂ => ?_) fun _ _ e => e)
  obtain ⟨I, fp, wr, G, P, St, rfl, W, hst, hfp, hQ⟩ := h₂
  have hf : (decide (-(2 ^ 63) ≤ n) && decide (n < 2 ^ 63)) = true := by simp only [Bool.and_eq_true, decide_eq_true_eq]; exact hn
  show wpAny _ _ (if (_ : Bool) = true then _ else _) _ _ _
  refine wpAny_ite_pos hf ?_
  refine wpAny_bind (wpAny_rule (wpAny_bind (wpAny_mkInt (wpAny_bind (wpAny_pure ?_)))))
  simp only [List.forIn_cons, List.forIn_nil]
  refine wpAny_bind (wpAny_bind (wpAny_bind (wpAny_isInstance (T := "int") (b := false) (typeIs_int _ _ _) PySem.sub_int_str ?_)))
  simp only [Bool.false_eq_true, if_false]
  refine wpAny_pure (wpAny_bind (wpAny_bind (wpAny_isInstance (T := "int") (b := false) (typeIs_int _ _ _) sub_int_bytes ?_)))
  simp only [Bool.false_eq_true, if_false]
  refine wpAny_pure (wpAny_bind (wpAny_bind (wpAny_isInstance (T := "int") (b := false) (typeIs_int _ _ _) sub_int_bytearray ?_)))
  simp only [Bool.false_eq_true, if_false]
  refine wpAny_pure (wpAny_pure ?_)
  refine wpAny_bind (wpAny_newObj_type ?_)
  have hSf : s₂.heap.objs.size ∉ fp := fun hm => Nat.lt_irrefl _ (hfp _ hm)
  refine wpAny_pure ⟨plainId_quiet F.plain_sum_loop _, ?_⟩
  refine codeAny_builtin F.entry_sum_loop ?_
  rw [Around.under_plainId F.plain_sum_loop _]
  show wpAny _ A.in1 (seqItems? (.ref s₂.heap.objs.size) >>= _) _ _ _
  refine wpAny_bind (wpAny_seqItems (Heap.get?_push_size _ rfl) rfl ?_)
  show wpAny _ A.in1 (tryCatch (pyNext (.ref I)) _ >>= _) _ _ _
  refine wpAny_bind (wpAny_tryCatch (W.done _ _ _ (W.frame 0 s₂ _ _ hst (by first | exact Nat.le_refl _ | exact Nat.le_succ _ | omega) fun b _ o e => Heap.get?_push_of_some _ e) fun s' hm => ?_))
  refine wpAny_pure (hQ s' _ ?_)
  exact (hm.mono (wr' := s₂.heap.objs.size :: wr) (fun b hb => List.mem_cons_of_mem _ hb)).drop_new (by first | exact Nat.le_refl _ | exact Nat.le_succ _ | omega)
theorem iter_acc {K : Frag} {h : Heap} {g : Array GenState} {d : Drawn} {t : Nat} {os : OsState} {xa da : Addr} {Q : Value → Shared → Prop} (X : K.In h) (hx : h.get? xa = some (accObj da))
    (hi : findIn K (.ref 185) "__iter__" = some (some (.builtin "list.__iter__"))) (hs : mroIn K 185 (.type "list") = some true)
    (hQ : Q (.ref h.objs.size) ⟨h.push { cls := .type "list_iterator", data := .fields #[.ref xa, .int 0 0] }, g, d, t, os⟩) :
    wpAny (model prog w) A (pyIter (.ref xa)) Q E ⟨h, g, d, t, os⟩ := by
  have ht : Looks (model prog w) h (typeOf (.ref xa)) (.ref 185) := (Looks.ld hx).andThen .now
  have sp : Looks (model prog w) h (specialOf (.ref xa) "__iter__") (some (.builtin "list.__iter__")) := ht.andThen (looks_findIn X hi)
  have sub : Looks (model prog w) h (isInstance (.ref xa) (.type "list")) true := ht.andThen (looks_mroIn X hs)
  have bs := slot_list_iter.bind (.ref xa)
  unfold pyIter
  refine wpAny_bind (sp.at ?_)
  show wpAny _ A (callSpecialIfBoundUnlessNone? (.ref xa) "__iter__" _ >>= _) Q E _
  simp only [callSpecialIfBoundUnlessNone?, bindSpecialIfBound?]
  refine wpAny_bind (wpAny_holding (wpAny_bind (wpAny_bind (sp.at ?_))))
  simp only [bs]
  have fin : ∀ refuse : Sem Value, wpAny (model prog w) A (if (Value.builtin "list.__iter__" == Value.none) = true then (refuse >>= fun v => pure (some v)) else (PySem.call (.builtin "list.__iter__") [.ref xa] >>= fun v => pure (some v)))
      (fun v s' => v = some (.ref h.objs.size) ∧ s' = ⟨h.push { cls := .type "list_iterator", data := .fields #[.ref xa, .int 0 0] }, g, d, t, os⟩) E ⟨h, g, d, t, os⟩ := by
    intro refuse
    rw [if_neg (by decide)]
    refine wpAny_bind (wpAny_call (codeAny_call_builtin slot_list_iter.plain entry_list_iter (@check_slot (model prog w) _ _ _ "list.__iter__" "list" "__iter__" (.ref xa) [] [] _ (by decide +kernel) (by decide +kernel) sub (args_list_iter _) ?_)))
    show wpAny _ _ (do ret (← newFields "list_iterator" [.ref xa, rawInt 0])) _ _ _
    exact wpAny_bind (wpAny_newObj_type (wpAny_pure (wpAny_pure ⟨rfl, rfl⟩)))
  refine wpAny_bind (wpAny_askSetting (wpAny_ite ?_))
  split
  · exact wpAny_bind (wpAny_pure (wpAny_pure (wpAny_mono (fin _) (fun v s' hv => by obtain ⟨rfl, rfl⟩ := hv; exact wpAny_bind (wpAny_specialOf (T := "list_iterator") ⟨_, Heap.get?_push_size _ rfl, rfl⟩ slot_listiter_next.lookup (wpAny_pure hQ))) fun _ _ e => e)))
  · exact wpAny_tryCatch (wpAny_bind (wpAny_pure (wpAny_pure (wpAny_mono (fin _) (fun v s' hv => by obtain ⟨rfl, rfl⟩ := hv; exact wpAny_bind (wpAny_specialOf (T := "list_iterator") ⟨_, Heap.get?_push_size _ rfl, rfl⟩ slot_listiter_next.lookup (wpAny_pure hQ))) fun _ _ e => e))))
theorem next_acc_end {it l da : Addr} {i : Nat} {Q : Option Value → Shared → Prop} (hh : A.handled = none)
    (hit : s.heap.IsListIter it l i) (hol : s.heap.get? l = some (accObj da))
    (hQ : ∀ h', Heap.ExtBut it s.heap h' → Q none { s with heap := h' }) : wpAny (model prog w) A (pyNext (.ref it)) Q E s := by
  obtain ⟨o, ho, hc, hd⟩ := id hit
  unfold pyNext
  refine wpAny_bind (wpAny_attempt (wpAny_callSpecial?_slot (name := Str.ofString "__next__") hit.typeIs slot_listiter_next
    (wpAny_call_entry slot_listiter_next hit.typeIs entry_listiter_next ?_ (args_listiter_next _))))
  show wpAny _ _ (field (.ref it) 0 >>= _) _ _ s
  refine wpAny_bind (wpAny_field ho hd (x := .ref l) rfl ?_)
  show wpAny _ _ (if (Value.ref l == Value.none) = true then _ else _) _ _ s
  rw [if_neg (show ¬ ((Value.ref l == Value.none) = true) from Bool.false_ne_true)]
  show wpAny _ _ (field (.ref it) 1 >>= _) _ _ s
  refine wpAny_bind (wpAny_field ho hd (x := .int i 0) rfl ?_)
  show wpAny _ _ (seqItems? (.ref l) >>= _) _ _ s
  refine wpAny_bind (wpAny_seqItems hol rfl ?_)
  simp only [Int.toNat_natCast]
  refine wpAny_bind (wpAny_rule (wpAny_bind (wpAny_setField ho hd (by simp) ?_)))
  show wpAny _ _ (newExc (.type "StopIteration") [] >>= _) _ _ _
  refine wpAny_bind ?_
  simp only [newExc, newTuple]
  refine wpAny_bind (wpAny_newObj_type ?_ (by size_fits))
  refine wpAny_bind (m := firstArgMember _ _) (wpAny_of_eq (a := Value.none) (by first | rfl | (simp only [firstArgMember]; rfl)) ?_)
  refine wpAny_newObj_type ?_ (by size_fits)
  simp only [raiseNew]
  refine wpAny_bind (wpAny_handled ?_)
  rw [show A.in1.handled = none from hh]
  refine wpAny_bind (wpAny_pure (wpAny_throw ?_))
  refine wpAny_bind (wpAny_isInstance (T := "StopIteration") (b := true) ⟨_, Heap.get?_push_size _ rfl, rfl⟩ isSubtype_stop ?_)
  exact wpAny_pure (hQ _ (((Heap.SameBut.update ..).extBut.push _).push _))
theorem acc_walks {it l da : Addr} (hh : A.handled = none) (hne : l ≠ it) : WalksU prog w A it [it, l] [it] 0 (fun _ _ => False) (fun _ h => h.IsListIter it l 0 ∧ h.get? l = some (accObj da)) (fun _ _ _ => False) where
  sub := fun b hb => by rw [List.mem_singleton.mp hb]; exact .head _
  frame := fun i h h' ⟨⟨o, a, b⟩, c⟩ k => ⟨⟨o, k it (.head _) _ a, b⟩, k l (.tail _ (.head _)) _ c⟩
  item := fun i s Q E hi => absurd hi (Nat.not_lt_zero _)
  go := fun _ _ _ _ _ _ _ _ h => h.elim
  apart := fun _ _ _ h => h.elim
  done := fun s Q E hst hq => next_acc_end hh hst.1 hst.2 fun h' k => hq h' s.toks fun b o hb e => k b o (fun z => hb (z ▸ .head _)) e
  self := fun i s Q E hst hq => wpAny_pyIter_listiter hst.1 hq
end
theorem grow_fr {h₀ h h' : Heap} {L P : Addr} {m : Str → Option Value} {o : Obj} {news : List (Addr × Obj)} (F : Fr h₀ L h m) (N : News h₀ L h ((P, o) :: news)) (k : ∀ b o, b ≠ P → h.get? b = some o → h'.get? b = some o) : Fr h₀ L h' m := by
  obtain ⟨oL, es, ep, hL, r⟩ := F.ns
  have hP := N _ (.head _)
  refine ⟨⟨oL, es, ep, k _ _ (Ne.symm hP.2.1) hL, r⟩, fun b x e => k _ _ (fun z => ?_) (F.keep _ _ e), F.above⟩
  have := hP.2.2
  rw [← z, e] at this; cases this
theorem grow_news {h₀ h h' : Heap} {L P : Addr} {o o' : Obj} {news : List (Addr × Obj)} (N : News h₀ L h ((P, o) :: news)) (hn : ∀ p ∈ news, p.1 ≠ P) (k : ∀ b o, b ≠ P → h.get? b = some o → h'.get? b = some o) (hP : h'.get? P = some o') : News h₀ L h' ((P, o') :: news) := by
  intro p hp
  rcases List.mem_cons.mp hp with rfl | hp
  · exact ⟨hP, (N _ (.head _)).2⟩
  · exact ⟨k _ _ (hn _ hp) (N _ (.tail _ hp)).1, (N _ (.tail _ hp)).2⟩
theorem code_tab {M : Model} {A : Around} {E : Value → Shared → Prop} {h : Heap} {g : Array GenState} {d : Drawn} {t : Nat} {os : OsState} {env : Env} {pos : Pos} {qual : Str} {scope : Scope} {ps : Array Value} {oc : Obj} {vs : Array Value} {c P : Addr} {file : Str} {tf tg tt : Tok} {flags text : Int} {inF : Bool} {Q : Value → Shared → Prop}
    (hc : env.code = .ref c) (h151 : h.get? c = some oc) (hcls : oc.cls = .type "code") (hd : oc.data = .fields vs) (h11 : vs.getD 11 .none = .ref P) (h11' : vs[11]? = some (.ref P)) (h18 : vs.getD 18 .none = .str file tf) (h7 : vs.getD 7 .none = .int flags tg) (h9 : vs.getD 9 .none = .bool inF) (h10 : vs.getD 10 .none = .int text tt)
    (h147 : h.get? P = some (tableObj ps)) (hT : TriplesOk ps.toList) (hne : c ≠ P)
    (hQ : ∀ code h' tk ps', (∀ b o, b ≠ P → h.get? b = some o → h'.get? b = some o) → h.objs.size ≤ h'.objs.size → h'.get? P = some (tableObj ps') → TriplesOk ps'.toList → Q code ⟨h', g, d, tk, os⟩) :
    wpAny M A (genexprCode env pos qual scope) Q E ⟨h, g, d, t, os⟩ := by
  have ok : h.IsCode c P ps := ⟨_, _, file, tf, flags, tg, inF, text, tt, _, h151, hd, h11, h18, h7, h9, h10, h147, rfl, hT, hne⟩
  cases hf : codeAmong pos ps.toList with
  | some cv => exact wpAny_genexprCode_hit hc ok hf (hQ _ _ _ _ (fun _ _ _ e => e) (Nat.le_refl _) h147 hT)
  | none =>
    refine wpAny_genexprCodeX hc ok ⟨⟨_, _, h151, hcls, hd, h11'⟩, h147⟩ hf fun c' h' tk hx h1 h2 hok hrec htab _ => ?_
    obtain ⟨o, vs', file', tf', flags', tg', inF', text', tt', op, a1, a2, a3, a4, a5, a6, a7, a8, a9, a10, a11⟩ := hok
    exact hQ _ _ _ _ hx (Nat.le_trans h1 (Nat.le_of_lt h2)) htab.2 a10
theorem kind_list_ga : builtinKind "list.__getattribute__" = some .slot := by decide +kernel
theorem split_list_ga : splitId "list.__getattribute__" = some ("list", "__getattribute__") := by decide +kernel
theorem acc_attr {prog : Program} {w : World} {A : Around} {E : Value → Shared → Prop} {h : Heap} {g : Array GenState} {d : Drawn} {t : Nat} {os : OsState} {K : Frag} {x da : Addr} {es : List DictEntry} {n : Nat} {name : Str} {v : Value} {attr : Option Value} {expr : Bool} {Q : Value → Shared → Prop} (X : K.In h) (I : InstAt h x (accObj da) 185 (some (dictOf es n)))
    (hga : findIn K (.ref 185) "__getattribute__" = some (some (.builtin "list.__getattribute__"))) (hgt : findIn K (.ref 185) "__getattr__" = some none) (hsl : mroIn K 185 (.type "list") = some true) (hh : hasDictIn K 185 = true)
    (ha : findIn K (.ref 185) name = some attr) (hn : noGet K attr = true) (hl : getL name es = some (some v)) (hv : handedIn v = true) (hq : Q v ⟨h, g, d, t + 1, os⟩) : wpAny (model prog w) A (getAttr (.ref x) name expr) Q E ⟨h, g, d, t, os⟩ := by
  have L0 := I.type (M := model prog w)
  have L1 := looks_findIn (M := model prog w) X hga
  have L2 := looks_findIn (M := model prog w) X hgt
  have L3 := looks_find (M := model prog w) X I (findObj_own hh ha hn hl)
  have sub : Looks (model prog w) _ (isInstance (.ref x) (.type "list")) true := L0.andThen (looks_mroIn X hsl)
  have eb : (expr && onTheHeap (.builtin "list.__getattribute__")) = false := by cases expr <;> rfl
  unfold getAttr getAttrBy
  refine wpAny_bind (wpAny_mkText (wpAny_holding (wpAny_bind (L0.at (wpAny_bind (L1.at ?_))))))
  show wpAny _ _ (getAttrByItsOwn (.ref x) (.str name t) (.ref 185) (.builtin "list.__getattribute__") true expr) _ _ _
  unfold getAttrByItsOwn hookBefore callGetattribute boundAndCalled
  refine wpAny_bind ?_
  show wpAny _ _ (typeLookup (.ref 185) "__getattr__") _ _ _
  refine L2.at (wpAny_bind (wpAny_attempt (wpAny_holding ?_)))
  rw [eb]
  show wpAny _ _ (bindSpecial (.builtin "list.__getattribute__") (.ref x) >>= _) _ _ _
  refine wpAny_bind (wpAny_of_eq (F.slot_list_getattribute.bind _) ?_)
  refine wpAny_call (codeAny_call_builtin F.slot_list_getattribute.plain F.entry_list_ga (@check_slot (model prog w) _ _ _ "list.__getattribute__" "list" "__getattribute__" (.ref x) [.str name t] [] _ kind_list_ga split_list_ga sub (F.args_list_getattribute_2 _ _) ?_))
  refine wpAny_bind (wpAny_pure (wpAny_bind (wpAny_pure (wpAny_bind (L0.at (wpAny_bind (L3.at ?_)))))))
  refine wpAny_pure ?_
  show wpAny _ _ (handedOut v) _ _ _
  rw [handedOut_of hv]; exact wpAny_pure hq
end Mine
end

-- CtL
section
local macro_rules | `(tactic| walk_at "idle 0") => `(tactic| skip)
local macro_rules | `(tactic| walk_at "idle 1") => `(tactic| skip)
local macro_rules | `(tactic| walk_at "idle 2") => `(tactic| skip)
local macro_rules | `(tactic| walk_at "idle 3") => `(tactic| skip)
theorem Mine.fresh_CtL : True := by (w_top off; exact True.intro)
namespace Mine
open PySem.W.X
local macro_rules | `(tactic| walk_at "pyIter ref") => `(tactic| refine Stop.mk' ?_)
local macro_rules | `(tactic| k_inst) => `(tactic| assumption)
local macro_rules | `(tactic| walk_at "call builtin:sum") => `(tactic| refine Stop.mk' ?_)
local macro_rules | `(tactic| k_room) => `(tactic| ktr_room)
local macro_rules | `(tactic| k_units) => `(tactic| ktr_units)
theorem inst_acc {h₀ h : Heap} {L x dx : Addr} {news : List (Addr × Obj)} {od : Obj} (N : News h₀ L h news) (h1 : (x, accObj dx) ∈ news) (h2 : (dx, od) ∈ news) : InstAt h x (accObj dx) 185 (some od) := ⟨(N _ h1).1, rfl, rfl, (N _ h2).1⟩
set_option maxHeartbeats 0 in
theorem len_ct (w : World) (xa da : Addr) (n : Int) (t tk0 : Tok) (hn : -(2 ^ 63) ≤ n ∧ n < 2 ^ 63) :
    Ct2 w 8 152 [.ref xa] [(xa, accObj da), (da, dictOf [⟨PyData.keyHash w.params "_initial_size", .str "_initial_size" tk0, .int n t⟩] 1)] (fun r => ∃ t', r = .int n t') := by
  unfold Ct2
  k_fill
  intro p loose mean mg mb dp un gd cn cs ad ccd cl outer A₀ base h₀ L m ps news s Q E B F X N hT hn47 T hk hbare hd hu hneed hret
  refine wpAny_call ?_
  k_dflt cell_enter
  k_steps
  rename Fr _ _ _ _ => F1
  rename News _ _ _ _ => N1
  rename Below _ _ _ _ => B1
  rename Frag.In _ _ => X1
  rename Top _ _ _ _ _ _ => T1
  have X2 := X1.keeps F1.keep
  have hxa := (N1 _ (.tail _ (hneed _ (.head _)))).1
  refine wpAny_GeneratorExp_walksQT rfl rfl rfl (by decide) rfl rfl rfl (by decide) rfl (by ktr_room) ?_ (fun _ => rfl)
  k_steps
  refine Stop.out ?_
  refine iter_acc X2 hxa (by k_is) (by k_is) ?_
  have F3 := F1.push { cls := .type "list_iterator", data := .fields #[.ref xa, .int 0 0] }
  have X3 := X1.keeps F3.keep
  have h151 := X3 151 _ (by k_is)
  obtain ⟨bm, ob, hb1, hb2, hb3, hb4, hb5, hb6⟩ := T1.bmain
  have nl3 := T1.nolimit.keeps F3.keep
  refine ⟨nl3, ?_⟩
  refine code_tab rfl h151 rfl rfl rfl rfl rfl rfl rfl rfl (Heap.get?_push_of_some _ (N1 _ (.head _)).1) hT (by decide) ?_
  intro code h4 tk4 ps4 k34 hsz4 h147 hT4
  have hF := T1.g.keeps F1.keep
  rename_i hh1 tk1
  have hlt : ∀ b o, hh1.get? b = some o → b < hh1.objs.size := fun b o e => Heap.lt_size e
  have k14 : ∀ b o, b ≠ 147 → hh1.get? b = some o → h4.get? b = some o := fun b o hb e => k34 b o hb (Heap.get?_push_of_some _ e)
  have F4 := grow_fr F1 N1 k14
  have N4 := grow_news N1 hn47 k14 h147
  have hI4 : h4.get? hh1.objs.size = some { cls := .type "list_iterator", data := .fields #[.ref xa, .int 0 0] } := k34 _ _ (Nat.ne_of_gt (hlt _ _ (N1 _ (.head _)).1)) (Heap.get?_push_size _ rfl)
  have hne147 : hh1.objs.size ≠ 147 := Nat.ne_of_gt (hlt _ _ (N1 _ (.head _)).1)
  have hIx : xa ≠ hh1.objs.size := Nat.ne_of_lt (hlt _ _ hxa)
  have hsz : hh1.objs.size < h4.objs.size := Nat.lt_of_lt_of_le (by rw [Heap.size_push]; exact Nat.lt_succ_self _) hsz4
  have hxa4 : h4.get? xa = some (accObj da) := k14 _ _ (hn47 _ (hneed _ (.head _))) hxa
  have bm147 : bm ≠ 147 := fun z => by
    have := (N1 _ (.head _)).2.2
    rw [z] at hb3
    rw [hb3] at this; cases this
  refine wpAny_builtinsFor (T1.g.keeps F4.keep) hb1 hb2 (F4.keep _ _ hb3) hb4 hb5 hb6 ?_
  have nl4 := T1.nolimit.keeps F4.keep
  refine ⟨hh1.objs.size, [hh1.objs.size, xa], [hh1.objs.size], 0, fun _ _ => False, fun _ h => h.IsListIter hh1.objs.size xa 0 ∧ h.get? xa = some (accObj da), fun _ _ _ => False, fun _ => true, fun _ _ => False, rfl, fun A' hA => acc_walks hA hIx, fun _ _ h => h.elim, ⟨⟨_, hI4, rfl, rfl⟩, hxa4⟩, ?_, nl4, ?_, fun href _ => ⟨fun _ _ _ _ _ _ _ _ hPt => hPt.elim, fun _ _ _ _ _ _ _ _ hPt => hPt.elim⟩, ?_⟩
  · intro b hb
    rcases List.mem_cons.mp hb with rfl | hb
    · exact hsz
    · rw [List.mem_singleton.mp hb]; exact Heap.lt_size hxa4
  · intro hc
    have hc' := List.mem_singleton.mp hc
    obtain ⟨_, hn, _⟩ := T1.nolimit.keeps F1.keep
    exact Nat.lt_irrefl _ (hc' ▸ hn.lt)
  intro a h5 tk5 gs hgs hlta hsz5 k45 W G
  have k15 : ∀ b o, b ≠ 147 → hh1.get? b = some o → h5.get? b = some o := fun b o hb e => k45 _ _ (k14 b o hb e)
  have F5 := grow_fr F1 N1 k15
  have N5 := grow_news N1 hn47 k15 (k45 _ _ h147)
  have n1 := hneed _ (.head _)
  have n2 := hneed _ (.tail _ (.head _))
  clear F4 N4 F3
  have N6 := news_cons (news_cons N5 (.tail _ n2)) (.tail _ (.tail _ n1))
  clear N5 X2 X3 h151
  have I6 : InstAt h5 xa (accObj da) 185 (some (dictOf [⟨PyData.keyHash w.params "_initial_size", .str "_initial_size" tk0, .int n t⟩] 1)) := inst_acc N6 (.head _) (.tail _ (.head _))
  k_steps
  refine acc_attr (X1.keeps F5.keep) I6 (by k_is) (by k_is) (by k_is) (by k_is) (by k_is) (by k_is) rfl (by k_handed) ?_
  k_steps
  refine Stop.out ?_
  have G' : GenAt PySem.Challenge.rw_wu0076_01.row.prog w _ a s.gens.size h4.objs.size (List.range h4.objs.size) [hh1.objs.size] (fun _ => true) 0 (fun _ _ => False) 0 ⟨h5, s.gens.push gs, s.drawn, tk5 + 1, s.os⟩ := G
  refine sum_empty hn (W.in4_1.self 0 _ _ _ G' ?_)
  refine ⟨a, _, _, _, _, _, rfl, W.in4_1, G', ?_, ?_⟩
  · intro b hb
    have hsz5' : h5.objs.size = a + 1 := hsz5
    have hlta' : h4.objs.size < a := hlta
    show b < h5.objs.size
    rw [hsz5']
    rcases List.mem_cons.mp hb with rfl | hb
    · exact Nat.lt_succ_self _
    rcases List.mem_cons.mp hb with rfl | hb
    · exact Nat.lt_succ_of_lt hlta'
    · exact Nat.lt_succ_of_lt (Nat.lt_trans (List.mem_range.mp hb) hlta')
  rintro ⟨h6, g6, d6, tk6, os6⟩ t' M
  obtain ⟨M1, M2, M3, M4, M5⟩ := M
  dsimp only at M1 M2 M3 M4
  subst M3 M4
  have k16 : ∀ b o, b < hh1.objs.size → h5.get? b = some o → h6.get? b = some o := fun b o hb e => M1 b o (fun z => by
    rcases List.mem_cons.mp z with rfl | z
    · exact Nat.lt_irrefl _ (Nat.lt_trans hb hsz)
    · exact Nat.ne_of_lt hb (List.mem_singleton.mp z)) e
  have k17 : ∀ b o, b ≠ 147 → hh1.get? b = some o → h6.get? b = some o := fun b o hb e => k16 b o (hlt _ _ e) (k15 b o hb e)
  have h147' : h6.get? 147 = some (tableObj ps4) := k16 _ _ (hlt _ _ (N1 _ (.head _)).1) (k45 _ _ h147)
  have gb : AllBare g6 := M2.bare (hbare.push hgs)
  have gsz : s.gens.size ≤ g6.size ∧ ∀ i, i < s.gens.size → g6[i]? = s.gens[i]? := by
    rcases M2 with rfl | ⟨⟨e1, e2⟩, _⟩
    · exact ⟨by rw [Array.size_push]; exact Nat.le_succ _, fun i hi => by rw [Array.getElem?_push, if_neg (Nat.ne_of_lt hi)]⟩
    · exact ⟨by rw [e1, Array.size_push]; exact Nat.le_succ _, fun i hi => by rw [e2 i (Nat.ne_of_lt hi), Array.getElem?_push, if_neg (Nat.ne_of_lt hi)]⟩
  show LeaveK h₀ L m _ _ _ _
  exact leaveK_ (grow_fr F1 N1 k17) (grow_news N1 hn47 k17 h147') fun FF NN => hret _ _ _ _ _ FF NN hT4 gb gsz.1 gsz.2 ⟨t', rfl⟩
end Mine
end

-- GenM
section
theorem Mine.fresh_GenM : True := by (w_top off; exact True.intro)
namespace Mine
open PySem.W.X PySem.Calls
section
variable {prog : Program} {w : World} {A : Around} {E : Value → Shared → Prop} {s : Shared}
/-- one step of a generator function that ends nowhere in the steps asked -/
theorem next_gen {a : Addr} {g n : Nat} {gs : GenState} {Y : Protocol} {Q : Option Value → Shared → Prop}
    (hl : s.heap.NoLimit) (hroom : A.depth < recursionLimit)
    (hg : s.heap.IsGen a g) (hgs : s.gens[g]? = some gs)
    (hgo : gs.Goes (model prog w) A.in1 (fun _ _ _ _ => False) Y n (.send .none) (s.setGen g .running))
    (hY : ∀ v s₁ gs', gs'.bare = true → Y (n - 1) (s.setGen g .running) v s₁ (fun r' s'' => match n with
        | 0 => False
        | m + 1 => gs'.Goes (model prog w) A.in1 (fun _ _ _ _ => False) Y m r' s'') → Q (some v) (s₁.setGen g gs')) :
    wpAny (model prog w) A (pyNext (.ref a)) Q E s := by
  unfold pyNext
  refine wpAny_bind (wpAny_attempt (wpAny_callSpecial?_slot (name := Str.ofString "__next__") hg.typeIs slot_gen_next
    (wpAny_call_entry slot_gen_next hg.typeIs entry_gen_next ?_ (args_gen_next _))))
  show wpAny _ A.in1 (Builtin.Generator.genWake (.ref a) (.send .none)) _ _ s
  unfold Builtin.Generator.genWake
  refine wpAny_bind (wpAny_holding (wpAny_genNumber hg (wpAny_bind (wpAny_genState hgs ?_))))
  cases gs with
  | running => exact hgo.elim
  | finished => exact hgo.elim
  | _ =>
    refine wpAny_bind (wpAny_roomToWake hl hroom ?_)
    show wpAny _ A.in1 (.resume g (.send .none) [] _) _ _ s
    refine wpAny_resumeQ hgs hgo (fun x s₁ hx => hx.elim) (fun v s₁ gs' hb hv => ?_)
    exact wpAny_pure ⟨v, rfl, wpAny_pure (hY v s₁ gs' hb hv)⟩
end
abbrev genObj (g : Nat) (nm qn : Value) : Obj := { cls := .type "generator", data := .fields #[.int g 0, nm, qn] }
theorem isGen_of {h : Heap} {a : Addr} {g : Nat} {nm qn : Value} (e : h.get? a = some (genObj g nm qn)) : h.IsGen a g := ⟨_, nm, qn, e, rfl, rfl, rfl⟩
def NsObj (m : Str → Option Value) (o : Obj) : Prop := ∃ es ep, o.data = .dict es ep ∧ StrKeys es ∧ ∀ name, nsFind es name = m name
theorem ns_of {h : Heap} {L : Addr} {m : Str → Option Value} {o : Obj} (z : NsObj m o) (e : h.get? L = some o) : h.Ns L m := let ⟨es, ep, r⟩ := z; ⟨o, es, ep, e, r⟩
/-- the call of a generator function: what its caller knows, and what its body will know -/
theorem call_gen {prog : Program} {w : World} {K : Frag} {p : Program} {loose : List Str} {mean : ExcName → Option Value} {mg mb : Str → Option Value} {A A₀ : Around} {base h₀ : Heap} {env : Env} {outer : List Env} {L : Addr} {m : Str → Option Value} {news : List (Addr × Obj)} {s : Shared} {Q E : Value → Shared → Prop}
    {f : Addr} {qual : Str} {body : List Stmt} {scope : Scope} {cdv oc : Value} {od : Option Addr} {osl : Array (Option Value)} {vals : List Value} {binds : List (Str × Value)} {fd : FuncData}
    (B : Below A₀ base outer h₀) (F : Fr h₀ L s.heap m) (X : K.In h₀) (N : News h₀ L s.heap news) (T : Top p loose mean mg mb h₀) (hA : A.frames = some (env :: outer)) (hf : env.frame = some L) (hke : env.scope.kind = .function)
    (ho : K.lookup f = some ⟨oc, od, .func fd, osl⟩) (hfd : fd.closure = [] ∧ fd.globals = mainGlobals ∧ fd.builtins = builtinsNs ∧ fd.code = cdv ∧ fd.scope = scope ∧ fd.qualname = qual ∧ fd.body = .stmts body) (hcd : codeIn K cdv qual = true) (hroom : A.depth < recursionLimit)
    (hbind : bindArgs fd ⟨vals, []⟩ = pure binds) (hloc : ∀ y ∈ binds, scope.names.lookup y.1 = some .local) (hcell : ∀ x ∈ scope.names, x.2 ≠ .cell)
    (hco : scope.isCoroutine = false) (hgen : scope.isGenerator = true) (hk : scope.kind = .function)
    (h : ∀ hG Lg h1 fO nm qn tk', Fr h₀ L hG m → Below A base (env :: outer) hG → K.In hG → Top p loose mean mg mb hG → NsObj (fun y => binds.reverse.lookup y) fO → hG.objs.size ≤ Lg → News hG Lg h1 news → (∀ b o, hG.get? b = some o → h1.get? b = some o) → h1.get? Lg = some fO →
      Fr h₀ L h1 m → News h₀ L h1 ((Lg + 1, genObj s.gens.size nm qn) :: (Lg, fO) :: news) → (∀ q ∈ news, q.1 < Lg) →
      (∀ R v s', LeaveK h₀ L m hG R v s' → R (.ok (.ret v)) s') →
      Q (.ref (Lg + 1)) ⟨h1, s.gens.push (.fresh (.func body (envX qual scope Lg f cdv []))), s.drawn, tk', s.os⟩) :
    wpAny (model prog w) A (PySem.call (.ref f) vals) Q E s := by
  obtain ⟨f1, f2, f3, f4, f5, f6, f7⟩ := hfd
  have FG := groundX (R := fun _ _ => True) B F N hA hf hke
  have hX := X.keeps F.keep
  refine wpAny_call (codeAny_call_generator hroom (hX _ _ ho) rfl (by rw [f5]; exact hco) (by rw [f5]; exact hgen) f7 (by rw [f4, f6]; exact codeRec_of hX hcd) ?_)
  rw [f1, f2, f3, f4, f5, f6, hbind]
  refine wpAny_pure (wpAny_newFunctionEnv hcell hloc (fun h' hns hsb => ?_) hk)
  have kk : ∀ b o, s.heap.get? b = some o → h'.get? b = some o := fun b o e => hsb.extBut b o (Nat.ne_of_lt (Heap.lt_size e)) (Heap.get?_push_of_some _ e)
  have hsz : h'.objs.size = s.heap.objs.size + 1 := by rw [hsb.1, Heap.size_push]
  refine ⟨(T.nolimit.keeps F.keep).keeps kk, ?_⟩
  obtain ⟨fO, es, ep, hfO, hns'⟩ := id hns
  have k1 : ∀ b o, s.heap.get? b = some o → (h'.push (genObj s.gens.size (.str fd.name (s.toks + binds.length)) (.str qual (s.toks + binds.length + 1)))).get? b = some o := fun b o e => Heap.get?_push_of_some _ (kk _ _ e)
  have F1 : Fr h₀ L (h'.push (genObj s.gens.size (.str fd.name (s.toks + binds.length)) (.str qual (s.toks + binds.length + 1)))) m := by
    obtain ⟨oL, es', ep', hL, r⟩ := F.ns
    exact ⟨⟨oL, es', ep', k1 _ _ hL, r⟩, fun b o e => k1 _ _ (F.keep _ _ e), F.above⟩
  have hLlt : L < s.heap.objs.size := F.ns.lt
  have none_of : ∀ b, s.heap.objs.size ≤ b → h₀.get? b = none := fun b hb => by
    cases z : h₀.get? b with
    | none => rfl
    | some o => exact absurd (Heap.lt_size (F.keep _ _ z)) (Nat.not_lt.mpr hb)
  have none_g : ∀ b, s.heap.objs.size ≤ b → (hideAll s.heap (news.map (·.1))).get? b = none := fun b hb => by
    cases z : (hideAll s.heap (news.map (·.1))).get? b with
    | none => rfl
    | some o => exact absurd (Heap.lt_size (of_hideAll _ z)) (Nat.not_lt.mpr hb)
  have := h (hideAll s.heap (news.map (·.1))) s.heap.objs.size (h'.push (genObj s.gens.size (.str fd.name (s.toks + binds.length)) (.str qual (s.toks + binds.length + 1)))) fO (.str fd.name (s.toks + binds.length)) (.str qual (s.toks + binds.length + 1)) (s.toks + binds.length + 1 + 1)
    FG.1 FG.2.1 (X.keeps FG.2.2.1) (T.keeps FG.2.2.1) ⟨es, ep, hns'⟩ (Nat.le_of_eq (hideAll_size _ _))
    (fun q hq => ⟨k1 _ _ (N q hq).1, Nat.ne_of_lt (Heap.lt_size (N q hq).1), hideAll_none _ (List.mem_map_of_mem hq)⟩)
    (fun b o e => k1 _ _ (of_hideAll _ e)) (Heap.get?_push_of_some _ hfO) F1 (fun q hq => ?_) (fun q hq => Heap.lt_size (N q hq).1)
    (fun R v s' hl => (groundX (R := R) B F N hA hf hke).2.2.2 v s' hl)
  · rw [← hsz] at this
    exact this
  · rcases List.mem_cons.mp hq with rfl | hq
    · exact ⟨hsz ▸ Heap.get?_push_size _ rfl, Nat.ne_of_gt (Nat.lt_succ_of_lt hLlt), none_of _ (Nat.le_succ _)⟩
    rcases List.mem_cons.mp hq with rfl | hq
    · exact ⟨Heap.get?_push_of_some _ hfO, Nat.ne_of_gt hLlt, none_of _ (Nat.le_refl _)⟩
    · exact ⟨k1 _ _ (N q hq).1, (N q hq).2⟩
end Mine
end

-- GenN
section
theorem Mine.fresh_GenN : True := by (w_top off; exact True.intro)
namespace Mine
open PySem.W.X PySem.Calls
abbrev e1M : PySem.Expr := .BinOp (.Attribute (.Name "self" ⟨66, 15, 66, 19⟩) "_maxlen" ⟨66, 15, 66, 27⟩) .Sub (.Call (.Name "len" ⟨66, 30, 66, 33⟩) [.Attribute (.Name "self" ⟨66, 34, 66, 38⟩) "_current_line" ⟨66, 34, 66, 52⟩] [] ⟨66, 30, 66, 53⟩) ⟨66, 15, 66, 53⟩
abbrev e2M : PySem.Expr := .BinOp (.Attribute (.Name "self" ⟨68, 19, 68, 23⟩) "_maxlen" ⟨68, 19, 68, 31⟩) .Sub (.Attribute (.Name "self" ⟨68, 34, 68, 38⟩) "_continuation_ws_len" ⟨68, 34, 68, 59⟩) ⟨68, 19, 68, 59⟩
abbrev scM : Scope := { kind := .function, names := [("self", .local), ("len", .globalImplicit)], isGenerator := true, isCoroutine := false }
abbrev whM : List Stmt := [.Expr (.Yield (some e2M) ⟨68, 12, 68, 60⟩) ⟨68, 12, 68, 60⟩]
abbrev ttM : PySem.Expr := .Constant (.bool true) 0 ⟨67, 14, 67, 18⟩
abbrev bodyM : List Stmt := [.Expr (.Yield (some e1M) ⟨66, 8, 66, 54⟩) ⟨66, 8, 66, 54⟩, .While ttM whM [] ⟨67, 8, 68, 60⟩]
abbrev cenvM (Lg : Addr) : Env := envX "_ValueFormatter._maxlengths" scM Lg 84 (.ref 83) []
abbrev esM (w : World) (k1 k2 k3 k4 k5 k6 : Tok) (x : Int) (t : Tok) (ws : Value) (z : Int) (tz : Tok) (sc : Value) (l xa : Addr) : List DictEntry :=
  [⟨PyData.keyHash w.params "_maxlen", .str "_maxlen" k1, .int x t⟩, ⟨PyData.keyHash w.params "_continuation_ws", .str "_continuation_ws" k2, ws⟩,
   ⟨PyData.keyHash w.params "_continuation_ws_len", .str "_continuation_ws_len" k3, .int z tz⟩, ⟨PyData.keyHash w.params "_splitchars", .str "_splitchars" k4, sc⟩,
   ⟨PyData.keyHash w.params "_lines", .str "_lines" k5, .ref l⟩, ⟨PyData.keyHash w.params "_current_line", .str "_current_line" k6, .ref xa⟩]
abbrev mM (x' : Addr) : Str → Option Value := fun y => ([("self", Value.ref x')] : List (Str × Value)).reverse.lookup y
def EvM (va : Int) (s : Shared) (v : Value) (s' : Shared) : Prop := (∃ t, v = .int va t) ∧ s'.heap = s.heap ∧ s'.gens = s.gens ∧ s'.drawn = s.drawn ∧ s'.os = s.os
set_option maxHeartbeats 0 in
theorem ev2 {w : World} {A : Around} {E : Value → Shared → Prop} {s : Shared} {hb : Heap} {Lg x' d' l xa : Addr} {k1 k2 k3 k4 k5 k6 t tz : Tok} {x z : Int} {ws sc : Value} (X : (Mine.hd.heap_1 w.params).In hb) (F : Fr hb Lg s.heap (mM x'))
    (N : News hb Lg s.heap [(x', instObj 101 d'), (d', dictOf (esM w k1 k2 k3 k4 k5 k6 x t ws z tz sc l xa) 6)]) :
    wpAny (model PySem.Challenge.rw_wu0076_01.row.prog w) A (eval e2M (cenvM Lg)) (EvM (x - z) s) E s := by
  revert X
  k_fill
  intro X
  k_steps
  exact ⟨⟨_, rfl⟩, rfl, rfl, rfl, rfl⟩
set_option maxHeartbeats 0 in
theorem evt {w : World} {A : Around} {E : Value → Shared → Prop} {s : Shared} {hb : Heap} {Lg : Addr} {Q : Bool → Shared → Prop} (X : (Mine.hd.heap_1 w.params).In hb) (hq : Q true s) :
    wpAny (model PySem.Challenge.rw_wu0076_01.row.prog w) A (isTrue ttM (cenvM Lg) (eval ttM (cenvM Lg))) Q E s := by
  revert X
  k_fill
  intro X
  k_steps
  exact hq
def Ev1 (va : Int) (w : World) (hG : Heap) (Lg x' : Addr) (news : List (Addr × Obj)) (s : Shared) (v : Value) (s' : Shared) : Prop :=
  (∃ t, v = .int va t) ∧ s'.drawn = s.drawn ∧ s'.os = s.os ∧ ∃ ps', Fr hG Lg s'.heap (mM x') ∧ News hG Lg s'.heap ((147, tableObj ps') :: news) ∧ TriplesOk ps'.toList ∧ AllBare s'.gens ∧ s.gens.size ≤ s'.gens.size ∧ ∀ i, i < s.gens.size → s'.gens[i]? = s.gens[i]?
local macro_rules | `(tactic| walk_at "call builtin:len") => `(tactic| refine Stop.mk' ?_)
set_option maxHeartbeats 0 in
theorem ev1 {w : World} {E : Value → Shared → Prop} {s : Shared} {hG base : Heap} {A₀ : Around} {dp un : Nat} {gd : Option (List Code)} {outer : List Env} {p : Program} {loose : List Str} {mean : ExcName → Option Value} {mg mb : Str → Option Value} {ps : Array Value} {news : List (Addr × Obj)} {Lg x' d' l xa da : Addr} {k1 k2 k3 k4 k5 k6 t ty tz tk0 : Tok} {x y z : Int} {ws sc : Value}
    (B : Below A₀ base outer hG) (F : Fr hG Lg s.heap (mM x')) (X : (Mine.hd.heap_1 w.params).In hG) (N : News hG Lg s.heap ((147, tableObj ps) :: news)) (hT : TriplesOk ps.toList) (hn47 : ∀ p ∈ news, p.1 ≠ 147) (T : Top p loose mean mg mb hG) (hbare : AllBare s.gens) (hd : dp + 8 < 800) (hu : un + 16 * 9 < 8000) (hy : 0 ≤ y ∧ y < 2 ^ 63)
    (n1 : (x', instObj 101 d') ∈ news) (n2 : (d', dictOf (esM w k1 k2 k3 k4 k5 k6 x t ws z tz sc l xa) 6) ∈ news) (n3 : (xa, accObj da) ∈ news) (n4 : (da, dictOf [⟨PyData.keyHash w.params "_initial_size", .str "_initial_size" tk0, .int y ty⟩] 1) ∈ news) :
    wpAny (model PySem.Challenge.rw_wu0076_01.row.prog w) (ktrTop dp un gd "_ValueFormatter._maxlengths" scM Lg 84 (.ref 83) [] outer) (eval e1M (cenvM Lg)) (Ev1 (x - y) w hG Lg x' news s) E s := by
  revert X
  k_fill
  intro X
  have N0 := news_cons (news_cons N (.tail _ n2)) (.tail _ (.tail _ n1))
  have I : InstAt s.heap xa (accObj da) 185 (some (dictOf [⟨PyData.keyHash w.params "_initial_size", .str "_initial_size" tk0, .int y ty⟩] 1)) := inst_acc N (.tail _ n3) (.tail _ n4)
  k_steps
  refine Stop.out ?_
  refine len_K F X I (by k_is) (by k_is) ?_
  refine len_ct w xa da y ty tk0 (by omega) _ _ _ _ _ _ _ _ _ _ _ _ _ _ _ _ _ _ _ _ _ _ _ _ B F X N hT hn47 T rfl hbare (by first | assumption | ktr_room) (by first | omega | ktr_units) ?_ ?_
  · intro q hq
    rcases List.mem_cons.mp hq with rfl | hq
    · exact n3
    · rw [List.mem_singleton.mp hq]; exact n4
  intro r ps' h' tk' g' F' N' hT' hb' hsz hpre hr
  obtain ⟨t', rfl⟩ := hr
  refine ⟨⟨hy.1, hy.2⟩, ?_⟩
  k_steps
  exact ⟨⟨_, rfl⟩, rfl, rfl, ps', F', N', hT', hb', hsz, hpre⟩
def PreM (w : World) (hb : Heap) (Lg x' d' : Addr) (es : List DictEntry) (h : Heap) : Prop := Fr hb Lg h (mM x') ∧ News hb Lg h [(x', instObj 101 d'), (d', dictOf es 6)]
def YM (w : World) (hb hG : Heap) (Lg x' d' : Addr) (es : List DictEntry) (news : List (Addr × Obj)) (va vb : Int) : Protocol := fun m s₀ v s' kap =>
  (if m = 2 then Ev1 va w hG Lg x' news s₀ v s' else EvM vb s₀ v s') ∧ (m ≠ 0 → ∀ s'', PreM w hb Lg x' d' es s''.heap → kap (.send .none) s'')
theorem seg_loopM {w : World} {A : Around} {hb hG : Heap} {Lg x' d' l xa : Addr} {k1 k2 k3 k4 k5 k6 t tz : Tok} {x z va : Int} {ws sc : Value} {news : List (Addr × Obj)} {fs : List Frame} (X : (Mine.hd.heap_1 w.params).In hb) (hfs : splitAtGen fs = none) (hfg : fs.any Frame.guarded = false) :
    ∀ n, n < 2 → ∀ s, PreM w hb Lg x' d' (esM w k1 k2 k3 k4 k5 k6 x t ws z tz sc l xa) s.heap →
      Seg (model PySem.Challenge.rw_wu0076_01.row.prog w) A (fun _ _ _ _ => False) (YM w hb hG Lg x' d' (esM w k1 k2 k3 k4 k5 k6 x t ws z tz sc l xa) news va (x - z)) (n + 1) s (.whileLoop ttM whM [] (cenvM Lg)) ((model PySem.Challenge.rw_wu0076_01.row.prog w).den (.whileLoop ttM whM [] (cenvM Lg))) fs s := by
  intro n
  induction n with
  | zero =>
    intro _ s hp
    refine seg_whileLoop (evt X ?_)
    rw [if_pos rfl]
    refine seg_execs_cons (seg_Expr_Yield hfs rfl hfg (wpAny_mono (ev2 X hp.1 hp.2) (fun v s' hv kap hkap => ⟨by rw [if_neg (by decide)]; exact hv, fun h => (h rfl).elim⟩) fun _ _ y => y))
  | succ n ih =>
    intro hn s hp
    refine seg_whileLoop (evt X ?_)
    rw [if_pos rfl]
    refine seg_execs_cons (seg_Expr_Yield hfs rfl hfg (wpAny_mono (ev2 X hp.1 hp.2) (fun v s' hv kap hkap => ⟨by rw [if_neg (by omega)]; exact hv, fun _ s'' hpre => hkap .none s'' ?_⟩) fun _ _ y => y))
    exact seg_execs_nil (seg_again rfl (ih (by omega) s'' hpre))
theorem seg_firstM {w : World} {A : Around} {s : Shared} {hb hG base : Heap} {A₀ : Around} {outer : List Env} {p : Program} {loose : List Str} {mean : ExcName → Option Value} {mg mb : Str → Option Value} {ps : Array Value} {news : List (Addr × Obj)} {Lg x' d' l xa da : Addr} {k1 k2 k3 k4 k5 k6 t ty tz tk0 : Tok} {x y z : Int} {ws sc : Value}
    (hA : A.frames = some outer) (hh : A.handled = none) (hd : A.depth + 10 < 800) (hu : A.units + 16 * 10 < 8000) (Xb : (Mine.hd.heap_1 w.params).In hb)
    (B : Below A₀ base outer hG) (F : Fr hG Lg s.heap (mM x')) (X : (Mine.hd.heap_1 w.params).In hG) (N : News hG Lg s.heap ((147, tableObj ps) :: news)) (hT : TriplesOk ps.toList) (hn47 : ∀ p ∈ news, p.1 ≠ 147) (T : Top p loose mean mg mb hG) (hbare : AllBare s.gens) (hy : 0 ≤ y ∧ y < 2 ^ 63)
    (n1 : (x', instObj 101 d') ∈ news) (n2 : (d', dictOf (esM w k1 k2 k3 k4 k5 k6 x t ws z tz sc l xa) 6) ∈ news) (n3 : (xa, accObj da) ∈ news) (n4 : (da, dictOf [⟨PyData.keyHash w.params "_initial_size", .str "_initial_size" tk0, .int y ty⟩] 1) ∈ news) :
    Seg (model PySem.Challenge.rw_wu0076_01.row.prog w) A (fun _ _ _ _ => False) (YM w hb hG Lg x' d' (esM w k1 k2 k3 k4 k5 k6 x t ws z tz sc l xa) news (x - y) (x - z)) 3 s (.func bodyM (cenvM Lg)) ((model PySem.Challenge.rw_wu0076_01.row.prog w).den (.func bodyM (cenvM Lg))) [] s := by
  obtain ⟨ah, ad, af, ag, au⟩ := A
  dsimp only at hA hh hd hu
  subst hA hh
  refine seg_func (seg_execs_cons (seg_Expr_Yield rfl rfl rfl (wpAny_mono (Q := Ev1 (x - y) w hG Lg x' news s) ?_ (fun v s' hv kap hkap => ⟨by rw [if_pos rfl]; exact hv, fun _ s'' hpre => hkap .none s'' ?_⟩) fun _ _ y => y)))
  · exact ev1 (dp := ad + 1) (un := au + 3) (gd := ag) B F X N hT hn47 T hbare (by omega) (by omega) hy n1 n2 n3 n4
  · exact seg_execs_cons (seg_While fun p => seg_loopM Xb rfl rfl 1 (by decide) s'' hpre)
end Mine
end

-- GenO
section
theorem Mine.fresh_GenO : True := by (w_top off; exact True.intro)
namespace Mine
open PySem.W.X PySem.Calls
theorem for_step {prog : Program} {w : World} {A : Around} {R : Result → Shared → Prop} {s : Shared} {target : PySem.Expr} {it : Value} {body orelse : List Stmt} {env : Env}
    (turn : wpAny (model prog w) A (pyNext it) (fun r s₁ => match r with
      | none => wpAny (model prog w) A (execs orelse env) (fun f s₃ => R (.ok f) s₃) (notedBy (model prog w) A env fun e s' => R (.error e) s') s₁
      | some v => wpAny (model prog w) A (letOwnedTupleGo target it v) (fun _ s₁' =>
          wpAny (model prog w) A (assign target env v) (fun _ s₂ => wpAny (model prog w) A (execs body env) (fun f s₃ => match f with
            | .next | .cont => codeAny (model prog w) A (.forLoop target it body orelse env) R s₃
            | .brk => R (.ok .next) s₃
            | .ret v => R (.ok (.ret v)) s₃) (notedBy (model prog w) A env fun e s' => R (.error e) s') s₂) (notedBy (model prog w) A env fun e s' => R (.error e) s') s₁') (notedBy (model prog w) A env fun e s' => R (.error e) s') s₁) (notedBy (model prog w) A env fun e s' => R (.error e) s') s) :
    codeAny (model prog w) A (.forLoop target it body orelse env) R s := by
  refine codeAny_of_tree ?_
  show wpAny _ A ((forTurn target it body orelse env).onRaise (fun x => do noteFrame x env; theTreesLotGoes x)) _ _ s
  refine wpAny_noted ?_
  simp only [forTurn]
  refine wpAny_bind (wpAny_standAt (wpAny_bind (wpAny_onRaise (wpAny_mono turn (fun r s₁ h₁ => ?_) fun _ _ h' => wpAny_standAt h'))))
  cases r with
  | none => exact wpAny_pure ⟨rfl, codeAny_block h₁⟩
  | some v =>
    refine wpAny_bind (wpAny_mono h₁ (fun _ s₁' h₁' => ?_) fun _ _ h' => h')
    refine wpAny_bind (wpAny_mono h₁' (fun _ s₂ h₂ => wpAny_bind (wpAny_mono h₂ (fun f s₃ h₃ => ?_) fun _ _ h' => h')) fun _ _ h' => h')
    cases f with
    | next => exact wpAny_pure ⟨rfl, h₃⟩
    | cont => exact wpAny_pure ⟨rfl, h₃⟩
    | brk => exact wpAny_pure h₃
    | ret v => exact wpAny_pure h₃
theorem bare_set {s : Shared} {g : Nat} {x : GenState} (h : AllBare s.gens) (hx : x.bare = true) : AllBare (s.setGen g x).gens := by
  intro y hy
  have hy' : y ∈ s.gens.set! g x := hy
  rw [Array.set!_eq_setIfInBounds] at hy'
  rcases Array.mem_or_eq_of_mem_setIfInBounds hy' with h1 | h1
  · exact h y h1
  · exact h1 ▸ hx
def GenR (w : World) (A : Around) (hb : Heap) (Lg x' d' : Addr) (es : List DictEntry) (va vb : Int) (n : Nat) (gs : GenState) : Prop :=
  ∃ hG news, gs.bare = true ∧ ∀ s'', PreM w hb Lg x' d' es s''.heap → gs.Goes (model PySem.Challenge.rw_wu0076_01.row.prog w) A.in1 (fun _ _ _ _ => False) (YM w hb hG Lg x' d' es news va vb) n (.send .none) s''
theorem gen_next {w : World} {A : Around} {E : Value → Shared → Prop} {s : Shared} {hb : Heap} {Lg x' d' ga : Addr} {es : List DictEntry} {va vb : Int} {n g : Nat} {gs : GenState} {Q : Option Value → Shared → Prop}
    (hl : s.heap.NoLimit) (hroom : A.depth < recursionLimit) (hg : s.heap.IsGen ga g) (hgs : s.gens[g]? = some gs) (hr : GenR w A hb Lg x' d' es va vb (n + 1) gs) (hn : n ≠ 2) (hp : PreM w hb Lg x' d' es s.heap)
    (hq : ∀ t tk gs' g', (n ≠ 0 → GenR w A hb Lg x' d' es va vb n gs') → g'[g]? = some gs' → (AllBare s.gens → AllBare g') → Q (some (.int vb t)) ⟨s.heap, g', s.drawn, tk, s.os⟩) :
    wpAny (model PySem.Challenge.rw_wu0076_01.row.prog w) A (pyNext (.ref ga)) Q E s := by
  obtain ⟨hG, news, hbr, hgo⟩ := hr
  refine next_gen hl hroom hg hgs (hgo _ hp) fun v s₁ gs' hb' hY => ?_
  obtain ⟨h1, h2⟩ := hY
  rw [if_neg (by simpa using hn)] at h1
  obtain ⟨⟨t, rfl⟩, e1, e2, e3, e4⟩ := h1
  obtain ⟨h₁, g₁, d₁, tk₁, os₁⟩ := s₁
  dsimp only at e1 e2 e3 e4
  subst e1 e2 e3 e4
  refine hq t tk₁ gs' _ (fun hn0 => ⟨hG, news, hb', fun s'' hp'' => ?_⟩) ?_ (fun hb0 => bare_set (s := ⟨s.heap, (s.setGen g .running).gens, s.drawn, tk₁, s.os⟩) (bare_set hb0 rfl) hb')
  · have := h2 hn0 s'' hp''
    exact this
  · exact setGen_self (s := ⟨s.heap, (s.setGen g .running).gens, s.drawn, tk₁, s.os⟩) (setGen_self hgs)
theorem preM_of {w : World} {h₀ h : Heap} {L Lg x' d' : Addr} {m : Str → Option Value} {es : List DictEntry} {l : List (Addr × Obj)} {fO : Obj} (F : Fr h₀ L h m) (N : News h₀ L h l) (hL : (Lg, fO) ∈ l) (z : NsObj (mM x') fO) (hsz : h₀.objs.size ≤ Lg) (n1 : (x', instObj 101 d') ∈ l) (n2 : (d', dictOf es 6) ∈ l) (e1 : x' ≠ Lg) (e2 : d' ≠ Lg) : PreM w h₀ Lg x' d' es h := by
  refine ⟨⟨ns_of z (N _ hL).1, F.keep, hsz⟩, fun q hq => ?_⟩
  rcases List.mem_cons.mp hq with rfl | hq
  · exact ⟨(N _ n1).1, e1, (N _ n1).2.2⟩
  · rw [List.mem_singleton.mp hq]; exact ⟨(N _ n2).1, e2, (N _ n2).2.2⟩
set_option maxHeartbeats 0 in
theorem ml_call {w : World} {p : Program} {loose : List Str} {mean : ExcName → Option Value} {mg mb : Str → Option Value} {dp un : Nat} {gd : Option (List Code)} {cn : Str} {cs : Scope} {a : Addr} {ccd : Value} {cl : List (Str × Addr)} {outer : List Env} {A₀ : Around} {base h₀ : Heap} {L : Addr} {m : Str → Option Value} {ps : Array Value} {news : List (Addr × Obj)} {s : Shared} {Q E : Value → Shared → Prop}
    {x' d' l xa da : Addr} {k1 k2 k3 k4 k5 k6 t ty tz tk0 : Tok} {x y z : Int} {ws sc : Value}
    (B : Below A₀ base outer h₀) (F : Fr h₀ L s.heap m) (X : (Mine.hd.heap_1 w.params).In h₀) (N : News h₀ L s.heap ((147, tableObj ps) :: news)) (hT : TriplesOk ps.toList) (hn47 : ∀ p ∈ news, p.1 ≠ 147) (T : Top p loose mean mg mb h₀) (hk : cs.kind = .function) (hbare : AllBare s.gens) (hd : dp + 12 < 800) (hu : un + 16 * 12 < 8000) (hy : 0 ≤ y ∧ y < 2 ^ 63)
    (n1 : (x', instObj 101 d') ∈ news) (n2 : (d', dictOf (esM w k1 k2 k3 k4 k5 k6 x t ws z tz sc l xa) 6) ∈ news) (n3 : (xa, accObj da) ∈ news) (n4 : (da, dictOf [⟨PyData.keyHash w.params "_initial_size", .str "_initial_size" tk0, .int y ty⟩] 1) ∈ news)
    (hret : ∀ Lg h1 fO nm qn g1 tk1, Fr h₀ L h1 m → News h₀ L h1 ((147, tableObj ps) :: (Lg + 1, genObj s.gens.size nm qn) :: (Lg, fO) :: news) → h₀.objs.size ≤ Lg → (∀ q ∈ news, q.1 < Lg) → 147 < Lg →
      (∀ (Q' : Option Value → Shared → Prop) (E' : Value → Shared → Prop), (∀ t' tk ps' h2 g2 gs' fO', Fr h₀ L h2 m → News h₀ L h2 ((147, tableObj ps') :: (Lg + 1, genObj s.gens.size nm qn) :: (Lg, fO') :: news) → NsObj (mM x') fO' → TriplesOk ps'.toList →
          GenR w (ktrTop dp un gd cn cs L a ccd cl outer) h₀ Lg x' d' (esM w k1 k2 k3 k4 k5 k6 x t ws z tz sc l xa) (x - y) (x - z) 2 gs' → g2[s.gens.size]? = some gs' → AllBare g2 → Q' (some (.int (x - y) t')) ⟨h2, g2, s.drawn, tk, s.os⟩) →
        wpAny (model PySem.Challenge.rw_wu0076_01.row.prog w) (ktrTop dp un gd cn cs L a ccd cl outer) (pyNext (.ref (Lg + 1))) Q' E' ⟨h1, g1, s.drawn, tk1, s.os⟩) →
      Q (.ref (Lg + 1)) ⟨h1, g1, s.drawn, tk1, s.os⟩) :
    wpAny (model PySem.Challenge.rw_wu0076_01.row.prog w) (ktrTop dp un gd cn cs L a ccd cl outer) (PySem.call (.ref 84) [.ref x']) Q E s := by
  revert X
  k_fill
  intro X
  refine call_gen (qual := "_ValueFormatter._maxlengths") (cdv := .ref 83) (scope := scM) (body := bodyM) (binds := [("self", .ref x')]) B F X N T rfl rfl hk (by k_is) ⟨rfl, rfl, rfl, rfl, rfl, rfl, rfl⟩ (by k_is) (by show dp < _; exact Nat.lt_trans (by omega : dp < 800) (by decide)) (by kernel_rfl) (locs rfl) (by decide) rfl rfl rfl ?_
  intro hG Lg h1 fO nm qn tk' FG BG XG TG hfO hsz NG kG hL F1 N1 hlt hlv
  have h147lt : 147 < Lg := hlt _ (.head _)
  have hltn : ∀ q ∈ news, q.1 < Lg := fun q hq => hlt _ (.tail _ hq)
  have hsz0 : h₀.objs.size ≤ Lg := Nat.le_trans FG.above (Nat.le_of_lt (Nat.lt_of_lt_of_le FG.ns.lt hsz))
  have NN : News h₀ L h1 ((147, tableObj ps) :: (Lg + 1, genObj s.gens.size nm qn) :: (Lg, fO) :: news) := fun q hq => N1 q (by
    simp only [List.mem_cons] at hq ⊢
    rcases hq with hq | hq | hq | hq <;> simp [hq])
  refine hret Lg h1 fO nm qn _ tk' F1 NN hsz0 hltn h147lt fun Q' E' hQ' => ?_
  have FL : Fr hG Lg h1 (mM x') := ⟨ns_of hfO hL, kG, hsz⟩
  have NL : News hG Lg h1 ((147, tableObj ps) :: (Lg + 1, genObj s.gens.size nm qn) :: news) := by
    intro q hq
    rcases List.mem_cons.mp hq with rfl | hq
    · exact NG _ (.head _)
    rcases List.mem_cons.mp hq with rfl | hq
    · refine ⟨(N1 _ (.head _)).1, Nat.succ_ne_self _, ?_⟩
      cases e : hG.get? (Lg + 1) with
      | none => rfl
      | some o => exact absurd (Nat.lt_of_lt_of_le (Heap.lt_size e) hsz) (Nat.not_lt.mpr (Nat.le_succ _))
    · exact NG _ (.tail _ hq)
  have hn47' : ∀ q ∈ (Lg + 1, genObj s.gens.size nm qn) :: news, q.1 ≠ 147 := by
    intro q hq
    rcases List.mem_cons.mp hq with rfl | hq
    · exact Nat.ne_of_gt (Nat.lt_succ_of_lt h147lt)
    · exact hn47 _ hq
  refine next_gen (n := 3) (Y := YM w h₀ hG Lg x' d' (esM w k1 k2 k3 k4 k5 k6 x t ws z tz sc l xa) ((Lg + 1, genObj s.gens.size nm qn) :: news) (x - y) (x - z)) (gs := .fresh (.func bodyM (cenvM Lg))) (T.nolimit.keeps F1.keep) (by show dp < _; exact Nat.lt_trans (by omega : dp < 800) (by decide)) (isGen_of (N1 _ (.head _)).1) (Array.getElem?_push_size ..) ⟨rfl, ?_⟩ ?_
  · exact seg_firstM (A := (ktrTop dp un gd cn cs L a ccd cl outer).in1) rfl rfl (by show dp + 10 < 800; omega) (by show un + 1 + 16 * 10 < 8000; omega) X BG FL XG NL hT hn47' TG (bare_set (s := ⟨h1, s.gens.push (.fresh (.func bodyM (cenvM Lg))), s.drawn, tk', s.os⟩) (hbare.push rfl) rfl) hy (.tail _ n1) (.tail _ n2) (.tail _ n3) (.tail _ n4)
  intro v s₁ gs' hb' hY
  obtain ⟨hY1, hY2⟩ := hY
  rw [if_pos rfl] at hY1
  obtain ⟨⟨t', rfl⟩, e1, e2, ps', Fm, Nm, hT', hbr, hs1, hs2⟩ := hY1
  obtain ⟨h₁, g₁, d₁, tk₁, os₁⟩ := s₁
  dsimp only at e1 e2 Fm Nm hT' hbr hs1 hs2
  have e1' : d₁ = s.drawn := e1
  have e2' : os₁ = s.os := e2
  subst e1' e2'
  have FN : Fr h₀ L h₁ m ∧ News h₀ L h₁ ((147, tableObj ps') :: (Lg + 1, genObj s.gens.size nm qn) :: news) := hlv (fun _ s' => Fr h₀ L s'.heap m ∧ News h₀ L s'.heap ((147, tableObj ps') :: (Lg + 1, genObj s.gens.size nm qn) :: news)) .none ⟨h₁, g₁, s.drawn, tk₁, s.os⟩ ⟨Lg, _, _, Fm, Nm, fun a b => ⟨a, b⟩⟩
  obtain ⟨fO', es', ep', hL', hr'⟩ := Fm.ns
  have hg1 : g₁[s.gens.size]? = some .running := by
    have := hs2 s.gens.size (by show s.gens.size < (Array.setIfInBounds _ _ _).size; rw [Array.size_setIfInBounds, Array.size_push]; exact Nat.lt_succ_self _)
    rw [this]
    exact setGen_self (s := ⟨h1, s.gens.push (.fresh (.func bodyM (cenvM Lg))), s.drawn, tk', s.os⟩) (Array.getElem?_push_size ..)
  refine hQ' t' tk₁ ps' h₁ _ gs' fO' FN.1 ?_ ⟨es', ep', hr'⟩ hT' ⟨hG, _, hb', fun s'' hp => hY2 (by decide) s'' hp⟩ (setGen_self (s := ⟨h₁, g₁, s.drawn, tk₁, s.os⟩) hg1) (bare_set (s := ⟨h₁, g₁, s.drawn, tk₁, s.os⟩) hbr hb')
  intro q hq
  simp only [List.mem_cons] at hq
  rcases hq with rfl | rfl | rfl | hq
  · exact FN.2 _ (.head _)
  · exact FN.2 _ (.tail _ (.head _))
  · exact ⟨hL', (N1 _ (.tail _ (.head _))).2⟩
  · exact FN.2 _ (.tail _ (.tail _ hq))
end Mine
end

-- CtA
section
local macro_rules | `(tactic| walk_at "idle 0") => `(tactic| skip)
theorem Mine.fresh_CtA : True := by (w_top off; exact True.intro)
namespace Mine
open PySem.W.X
local macro_rules | `(tactic| walk_at "call ref") => `(tactic| ((with_reducible show wpAny _ _ (PySem.call (Value.ref 185) _) _ _ _); refine Stop.mk' ?_))
local macro_rules | `(tactic| walk_at "call ref") => `(tactic| ((with_reducible show wpAny _ _ (PySem.call (Value.ref 196) _) _ _ _); refine Stop.mk' ?_))
local macro_rules | `(tactic| walk_at "compareOp NotEq ref ref") => `(tactic| refine Stop.mk' ?_)
local macro_rules | `(tactic| walk_at "subscriptTail Name Constant ref int") => `(tactic| refine Stop.mk' ?_)
local macro_rules | `(tactic| walk_at "exec For Name Call cons nil") => `(tactic| refine Stop.mk' ?_)
local macro_rules | `(tactic| walk_at "call ref") => `(tactic| ((with_reducible show wpAny _ _ (PySem.call (Value.ref 77) _) _ _ _); refine Stop.mk' ?_))
local macro_rules | `(tactic| k_room) => `(tactic| ktr_room)
local macro_rules | `(tactic| k_units) => `(tactic| ktr_units)
theorem mul_tab : (allB 13 fun i => allB 13 fun _ => (Txt.mul (Str.ofString " ") i).length == i) = true := by decide +kernel
theorem pad_len1 {a : Int} (ha : In12 a) : ((Txt.mul (Str.ofString " ") a).length : Int) = a := by
  have h := eq_of_beq (tab2 mul_tab ha ha)
  simp only [toNat_back ha] at h
  rw [h]
  exact toNat_back ha
theorem news_front6 {h₀ h : Heap} {L : Addr} {a b c d e f t : Addr × Obj} {r : List (Addr × Obj)} (N : News h₀ L h (a :: b :: c :: d :: e :: f :: t :: r)) : News h₀ L h (t :: a :: b :: c :: d :: e :: f :: r) := fun q hq => N q (by
  simp only [List.mem_cons] at hq ⊢
  rcases hq with hq | hq | hq | hq | hq | hq | hq | hq <;> simp [hq])
theorem bne_no {x : Str} (h : (x != x) = true) : False := by simp at h
set_option maxHeartbeats 0 in
theorem apart_ct (w : World) (x y z : Int) (t u v : Tok) (hx : In12 x) (hy : In12 y) (hz : In12 z) :
    Ct1 w 14 203 [.int x t, .int y u, .int z v] (fun r => ∃ t', r = .int (if x - y < 0 then -(x - y) else x - y) t') := by
  unfold Ct1
  k_fill
  intro p loose mean mg mb dp un gd cn cs ad ccd cl outer A₀ base h₀ L m ps news s Q E B F X N hT hn47 T hk hbare hd hu hret
  have ⟨hx0, hx1⟩ := hx
  have ⟨hy0, hy1⟩ := hy
  have ⟨hz0, hz1⟩ := hz
  refine wpAny_call ?_
  k_dflt cell_enter
  k_steps
  refine Stop.out ?_
  refine' ct0_use (strip_ct w x y _ _ hx hy) ?k1 ?k2 ?k3 ?k4 ?k5 ?k6 ?k7 ?k8 ?k9 ?_
  case k1 => k_asm
  case k2 => k_asm
  case k3 => k_asm
  case k4 => k_asm
  case k5 => k_asm
  case k6 => first | exact rfl | assumption
  case k7 => ktr_room
  case k8 => ktr_units
  case k9 => exact fun _ h9 => nomatch h9
  intro r9 tl9 h9 tk9 F9 N9 o9 x9
  obtain ⟨rfl, t9, rfl⟩ := x9
  try dsimp only
  try simp only [List.cons_append, List.nil_append] at N9
  k_steps
  · exact (bne_no (by assumption)).elim
  refine Stop.out ?_
  refine wpAny_For ?_
  k_steps
  refine Stop.out ?_
  refine' ct0_use (acc_ct w y _) ?k1 ?k2 ?k3 ?k4 ?k5 ?k6 ?k7 ?k8 ?k9 ?_
  case k1 => k_asm
  case k2 => k_asm
  case k3 => k_asm
  case k4 => k_asm
  case k5 => k_asm
  case k6 => first | exact rfl | assumption
  case k7 => ktr_room
  case k8 => (simp only [units_deeper, units_under_make, units_in1]; ktr_units)
  case k9 => exact fun _ h9 => nomatch h9
  intro r10 tl10 h10 tk10 F10 N10 o10 x10
  obtain ⟨xa, da, tka, rfl, la, rfl⟩ := x10
  have o11 := fun q hq => o10 _ (.head _) q hq
  have o12 := fun q hq => o10 _ (.tail _ (.head _)) q hq
  clear o10
  k_lt o11
  k_lt o12
  try dsimp only
  try simp only [List.cons_append, List.nil_append] at N10
  k_steps
  show wpAny _ _ (PySem.call (.ref 84) [.ref _]) _ _ _
  have ez : ((Txt.mul (Str.ofString " ") z).length : Int) = z := pad_len1 hz
  rename News _ _ _ _ => NA
  simp only [ez] at NA
  have NB := news_front6 NA
  clear NA
  refine' ml_call ?B ?F ?X NB hT ?n47 ?T ?hk hbare ?hd ?hu ⟨hy0, by omega⟩ ?n1 ?n2 ?n3 ?n4 ?hret
  case F => k_asm
  case B => k_asm
  case X => k_asm
  case T => k_asm
  case hk => first | exact rfl | assumption
  case hd => ktr_room
  case hu => ktr_units
  case n3 => exact .head _
  case n4 => exact .tail _ (.head _)
  case n1 => exact .tail _ (.tail _ (.tail _ (.head _)))
  case n2 => exact .tail _ (.tail _ (.tail _ (.tail _ (.head _))))
  case n47 =>
    intro q hq
    rcases List.mem_cons.mp hq with rfl | hq
    · k_ne
    rcases List.mem_cons.mp hq with rfl | hq
    · k_ne
    rcases List.mem_cons.mp hq with rfl | hq
    · k_ne
    rcases List.mem_cons.mp hq with rfl | hq
    · k_ne
    rcases List.mem_cons.mp hq with rfl | hq
    · k_ne
    rcases List.mem_cons.mp hq with rfl | hq
    · k_ne
    · exact hn47 _ hq
  intro Lg h20 fO nm qn g20 tk20 F20 N20 hsz20 hlt20 h147 hfirst
  refine wpAny_pyIter_gen (isGen_of (N20 _ (.tail _ (.head _))).1) ?_
  refine for_step ?_
  refine hfirst _ _ ?_
  intro t21 tk21 ps21 h21 g21 gs21 fO21 F21 N21 hfO21 hT21 hR21 hg21 hb21
  clear F20 hfirst NB
  k_lt hlt20
  dsimp only
  refine wpAny_pure ?_
  k_steps
  dsimp only
  refine for_step ?_
  rename Fr _ _ _ _ => F22
  rename News _ _ _ _ => N22
  refine' gen_next (n := 1) ?nl ?room (isGen_of (N22 _ (.tail _ (.head _))).1) hg21 hR21 (by decide) ?pre ?_
  case nl => exact Heap.NoLimit.keeps (Top.nolimit (by assumption)) F22.keep
  case room => ktr_room
  case pre => exact preM_of F22 N22 (.tail _ (.tail _ (.head _))) hfO21 hsz20 (by k_mem) (by k_mem) (by k_ne) (by k_ne)
  intro t22 tk22 gs22 g22 hR22 hg22 hb22
  have hR22' := hR22 (by decide)
  have hb22' := hb22 hb21
  clear hR22 hb22
  dsimp only
  refine wpAny_pure ?_
  k_steps
  dsimp only
  refine for_step ?_
  rename Fr _ _ _ _ => F23
  rename News _ _ _ _ => N23
  refine' gen_next (n := 0) ?nl ?room (isGen_of (N23 _ (.tail _ (.head _))).1) hg22 hR22' (by decide) ?pre ?_
  case nl => exact Heap.NoLimit.keeps (Top.nolimit (by assumption)) F23.keep
  case room => ktr_room
  case pre => exact preM_of F23 N23 (.tail _ (.tail _ (.head _))) hfO21 hsz20 (by k_mem) (by k_mem) (by k_ne) (by k_ne)
  intro t23 tk23 gs23 g23 hR23 hg23 hb23
  have hb23' := hb23 hb22'
  clear hR23 hb23
  dsimp only
  refine wpAny_pure ?_
  k_steps
  refine Stop.out ?_
  dsimp only
  rename News _ _ _ _ => N24
  refine ke_ne_ints (News.isList N24 (by k_mem)) (News.isList N24 (by k_mem)) (.cons _ _ (.cons _ _ (.cons _ _ .nil))) (.cons _ _ (.cons _ _ (.cons _ _ .nil))) (by ke_room) ?_
  simp only [decide_true, Bool.not_true]
  k_steps
  refine Stop.out ?_
  refine item_list_ints (News.isList N24 (by k_mem)) (.cons _ _ (.cons _ _ (.cons _ _ .nil))) (by decide) (by simp) (by decide) (fun t24 => ?_)
  simp only [Int.toNat_zero, List.getD_cons_zero]
  k_steps
  refine Stop.out ?_
  refine item_list_ints (News.isList N24 (by k_mem)) (.cons _ _ (.cons _ _ (.cons _ _ .nil))) (by decide) (by simp) (by decide) (fun t25 => ?_)
  simp only [Int.toNat_zero, List.getD_cons_zero]
  k_steps
  rename News _ _ _ _ => N30
  refine hret _ ps21 _ _ _ (by assumption) (fun q hq => ?_) hT21 hb23' ⟨_, congrArg (fun i => Value.int i _) ?_⟩
  · rcases List.mem_cons.mp hq with rfl | hq
    · exact N30 _ (by k_mem)
    · exact N30 _ (by simp only [List.mem_cons]; simp [hq])
  · show (if -(x - y) > x - y then -(x - y) else x - y) = _
    split <;> split <;> omega
end Mine
end

-- FlD
section
theorem Mine.fresh_FlD : True := by (w_top off; exact True.intro)
open PySem PySem.W PyProof.Rows PySem.Flt
namespace Mine
def sh2 (i j : Int) : UInt64 := if j = i then 0 else shareOf i j
theorem hls_light (x y z : Int) : (hls x y z).2.1 = lightOf (max3 x y z) (min3 x y z) := by unfold hls; split <;> rfl
theorem hls_share (x y z : Int) : (hls x y z).2.2 = sh2 (max3 x y z) (min3 x y z) := by
  unfold hls sh2; split <;> rfl
def l64 (i j : Int) : UInt64 := Float64.mul (Float64.ofInt 64) (lightOf i j)
def q2 (i j : Int) : UInt64 := Float64.add (Float64.mul (l64 i j) (sh2 i j)) 4602678819172646912
/-- all that is asked of a lightness and a share -/
def pairOk (i j : Nat) : Bool :=
  decide (i < j) || (Float64.cmpInt (l64 i j) ((i : Int) + j) == some .eq && !Float64.isNaN (q2 i j) && !Float64.isInf (q2 i j) && (Flt.toInt Float64.truncOf (q2 i j) == (i : Int) - j) &&
    ((Float64.cmp 0 (sh2 i j) == some .lt) == decide (i ≠ j)) && ((Float64.cmp (sh2 i j) 4607182418800017408 == some .lt) == (decide (i = j) || decide (0 < j))))
theorem pair_tab : (allB 13 fun i => allB 13 fun j => pairOk i j) = true := by decide +kernel
theorem subfr_tab : (allB 13 fun i => allB 13 fun j => decide (i < j) || (Float64.sub (fr i) (fr j) == fr ((i : Int) - j))) = true := by decide +kernel
theorem sub_fr {a b : Int} (ha : In12 a) (hb : In12 b) (h : b ≤ a) : Float64.sub (fr a) (fr b) = fr (a - b) := by
  have e := tab2 subfr_tab ha hb
  simp only [toNat_back ha, toNat_back hb] at e
  have h' : ¬ a.toNat < b.toNat := by have := ha.1; have := hb.1; omega
  simp only [h', decide_false, Bool.false_or] at e
  exact eq_of_beq e
/-- the hue by how far each part is from the greatest -/
def hueG (a b c : Int) : UInt64 :=
  (Float64.divmod (Float64.div
    (if a = 0 then Float64.sub (Float64.div (fr c) (fr (max3 a b c))) (Float64.div (fr b) (fr (max3 a b c)))
     else if b = 0 then Float64.sub (Float64.add 4611686018427387904 (Float64.div (fr a) (fr (max3 a b c)))) (Float64.div (fr c) (fr (max3 a b c)))
     else Float64.sub (Float64.add 4616189618054758400 (Float64.div (fr b) (fr (max3 a b c)))) (Float64.div (fr a) (fr (max3 a b c)))) 4618441417868443648) 4607182418800017408).2
def hueH (a b c : Int) : UInt64 := if max3 a b c = 0 then 0 else hueG a b c
def turnG (a b c s : Int) : Int := (if a = 0 then c - b else if b = 0 then 2 * s + (a - c) else 4 * s + (b - a)).fmod (6 * if 1 > s then 1 else s)
def q3 (s : Int) (h : UInt64) : UInt64 := Float64.add (Float64.mul (Float64.ofInt (6 * if 1 > s then 1 else s)) h) 4602678819172646912
def q6 (h : UInt64) : UInt64 := Float64.add (Float64.mul (Float64.ofInt 6) h) 4602678819172646912
def hueOk (a b c : Int) : Bool :=
  !Float64.isNaN (q3 (max3 a b c) (hueH a b c)) && !Float64.isInf (q3 (max3 a b c) (hueH a b c)) && (Flt.toInt Float64.truncOf (q3 (max3 a b c) (hueH a b c)) == turnG a b c (max3 a b c)) &&
    !Float64.isNaN (q6 (hueH a b c)) && !Float64.isInf (q6 (hueH a b c))
/-- a number handed on as it comes out: the kernel reckons it once -/
def forceN (n : Nat) (f : Nat → Bool) : Bool := match n with
  | 0 => f 0
  | k + 1 => f (k + 1)
theorem forceN_eq (n : Nat) (f : Nat → Bool) : forceN n f = f n := by cases n <;> rfl
def forceF (x : UInt64) (f : UInt64 → Bool) : Bool := forceN x.toNat fun n => f (UInt64.ofNat n)
theorem forceF_eq (x : UInt64) (f : UInt64 → Bool) : forceF x f = f x := by
  unfold forceF
  rw [forceN_eq, UInt64.ofNat_toNat]
def hueK (a b c s : Int) (f : UInt64 → Bool) : Bool :=
  if s = 0 then f 0 else
  forceF (fr a) fun fa => forceF (fr b) fun fb => forceF (fr c) fun fc => forceF (fr s) fun fs =>
  forceF (Float64.div fa fs) fun da => forceF (Float64.div fb fs) fun db => forceF (Float64.div fc fs) fun dc =>
  forceF (if a = 0 then Float64.sub dc db else if b = 0 then Float64.sub (Float64.add 4611686018427387904 da) dc else Float64.sub (Float64.add 4616189618054758400 db) da) fun e =>
  forceF (Float64.div e 4618441417868443648) fun g => forceF (Float64.divmod g 4607182418800017408).2 f
theorem hueK_eq (a b c : Int) (f : UInt64 → Bool) : hueK a b c (max3 a b c) f = f (hueH a b c) := by
  unfold hueK hueH hueG
  simp only [forceF_eq]
  split <;> rfl
def hueOkK (a b c : Int) : Bool :=
  hueK a b c (max3 a b c) fun h => forceF (q3 (max3 a b c) h) fun q => forceF (q6 h) fun r =>
    !Float64.isNaN q && !Float64.isInf q && (Flt.toInt Float64.truncOf q == turnG a b c (max3 a b c)) && !Float64.isNaN r && !Float64.isInf r
theorem hueOkK_eq (a b c : Int) : hueOkK a b c = hueOk a b c := by
  unfold hueOkK hueOk
  simp only [hueK_eq, forceF_eq]
theorem hue_tabK : (allB 13 fun i => allB 13 fun j => hueOkK 0 i j && hueOkK i 0 j && hueOkK i j 0) = true := by decide +kernel
theorem hue_tab : (allB 13 fun i => allB 13 fun j => hueOk 0 i j && hueOk i 0 j && hueOk i j 0) = true := by
  have h := hue_tabK
  simp only [hueOkK_eq] at h
  exact h
theorem hue_all {a b c : Int} (ha : In12 a) (hb : In12 b) (hc : In12 c) (h : a = 0 ∨ b = 0 ∨ c = 0) : hueOk a b c = true := by
  rcases h with rfl | rfl | rfl
  · have e := tab2 hue_tab hb hc
    simp only [toNat_back hb, toNat_back hc, Bool.and_eq_true] at e
    exact e.1.1
  · have e := tab2 hue_tab ha hc
    simp only [toNat_back ha, toNat_back hc, Bool.and_eq_true] at e
    exact e.1.2
  · have e := tab2 hue_tab ha hb
    simp only [toNat_back ha, toNat_back hb, Bool.and_eq_true] at e
    exact e.2
end Mine
end

-- FlE
section
theorem Mine.fresh_FlE : True := by (w_top off; exact True.intro)
open PySem PySem.W PyProof.Rows PySem.Flt
namespace Mine
theorem absd_is (a b : Int) : a - b ≤ absd a b ∧ b - a ≤ absd a b ∧ (absd a b = a - b ∨ absd a b = b - a) := by
  unfold absd; split <;> omega
theorem spr_of {x y z M : Int} (h1 : M = absd x y ∨ M = absd y z ∨ M = absd z x) (h2 : absd x y ≤ M ∧ absd y z ≤ M ∧ absd z x ≤ M) : M = max3 x y z - min3 x y z := by
  have a1 := absd_is x y
  have a2 := absd_is y z
  have a3 := absd_is z x
  rw [max3_is, min3_is]
  omega
theorem absd12 {x y : Int} (hx : In12 x) (hy : In12 y) : In12 (absd x y) := by
  have a1 := absd_is x y
  have := hx.1; have := hx.2; have := hy.1; have := hy.2
  exact ⟨by omega, by omega⟩
theorem spr12 {x y z : Int} (hx : In12 x) (hy : In12 y) (hz : In12 z) : In12 (max3 x y z - min3 x y z) := by
  have := hx.1; have := hx.2; have := hy.1; have := hy.2; have := hz.1; have := hz.2
  rw [max3_is, min3_is]
  exact ⟨by omega, by omega⟩
section
variable {x y z : Int} (hx : In12 x) (hy : In12 y) (hz : In12 z)
include hx hy hz
theorem off12 : In12 (max3 x y z - x) ∧ In12 (max3 x y z - y) ∧ In12 (max3 x y z - z) := by
  have := hx.1; have := hx.2; have := hy.1; have := hy.2; have := hz.1; have := hz.2
  rw [max3_is]
  exact ⟨⟨by omega, by omega⟩, ⟨by omega, by omega⟩, ⟨by omega, by omega⟩⟩
theorem off0 : max3 x y z - x = 0 ∨ max3 x y z - y = 0 ∨ max3 x y z - z = 0 := by
  rw [max3_is]; omega
theorem off_max : max3 (max3 x y z - x) (max3 x y z - y) (max3 x y z - z) = max3 x y z - min3 x y z := by
  rw [max3_is (max3 x y z - x), max3_is x, min3_is]; omega
theorem hls_hue : (hls x y z).1 = hueH (max3 x y z - x) (max3 x y z - y) (max3 x y z - z) := by
  have hm := max12 hx hy hz
  have hn := min12 hx hy hz
  have le : x ≤ max3 x y z ∧ y ≤ max3 x y z ∧ z ≤ max3 x y z ∧ min3 x y z ≤ max3 x y z := by rw [max3_is, min3_is]; omega
  have e1 : (max3 x y z - min3 x y z = 0) ↔ min3 x y z = max3 x y z := by omega
  have e2 : (max3 x y z - x = 0) ↔ x = max3 x y z := by omega
  have e3 : (max3 x y z - y = 0) ↔ y = max3 x y z := by omega
  unfold hueH hls
  rw [off_max hx hy hz]
  by_cases h : min3 x y z = max3 x y z
  · rw [if_pos h, if_pos (e1.mpr h)]
  · rw [if_neg h, if_neg (fun q => h (e1.mp q))]
    unfold hueOf hueG
    rw [off_max hx hy hz]
    simp only [sub_fr hm hx le.1, sub_fr hm hy le.2.1, sub_fr hm hz le.2.2.1, sub_fr hm hn le.2.2.2, e2, e3]
theorem turned_is (s : Int) : turned x y z s = turnG (max3 x y z - x) (max3 x y z - y) (max3 x y z - z) s := by
  have e2 : (max3 x y z - x = 0) ↔ x = max3 x y z := by omega
  have e3 : (max3 x y z - y = 0) ↔ y = max3 x y z := by omega
  unfold turned turnG place3
  simp only [e2, e3]
  by_cases h1 : x = max3 x y z
  · simp only [if_pos h1]
    have : at3 x y z (0 + 1) = y ∧ at3 x y z (0 + 2) = z := ⟨rfl, rfl⟩
    rw [this.1, this.2]
    congr 1; omega
  · simp only [if_neg h1]
    by_cases h2 : y = max3 x y z
    · simp only [if_pos h2]
      have : at3 x y z (1 + 1) = z ∧ at3 x y z (1 + 2) = x := ⟨rfl, rfl⟩
      rw [this.1, this.2]
      congr 1; omega
    · simp only [if_neg h2]
      have : at3 x y z (2 + 1) = x ∧ at3 x y z (2 + 2) = y := ⟨rfl, rfl⟩
      rw [this.1, this.2]
      congr 1; omega
theorem hue_facts : Float64.isNaN (q3 (max3 x y z - min3 x y z) (hls x y z).1) = false ∧ Float64.isInf (q3 (max3 x y z - min3 x y z) (hls x y z).1) = false ∧ Flt.toInt Float64.truncOf (q3 (max3 x y z - min3 x y z) (hls x y z).1) = turned x y z (max3 x y z - min3 x y z) ∧
    Float64.isNaN (q6 (hls x y z).1) = false ∧ Float64.isInf (q6 (hls x y z).1) = false := by
  have o := off12 hx hy hz
  have h := hue_all o.1 o.2.1 o.2.2 (off0 hx hy hz)
  unfold hueOk at h
  rw [off_max hx hy hz, ← hls_hue hx hy hz, ← turned_is hx hy hz] at h
  simp only [Bool.and_eq_true, Bool.not_eq_true', beq_iff_eq] at h
  exact ⟨h.1.1.1.1, h.1.1.1.2, h.1.1.2, h.1.2, h.2⟩
theorem pair_facts : (Float64.cmpInt (l64 (max3 x y z) (min3 x y z)) (max3 x y z + min3 x y z) == some .eq) = true ∧ Float64.isNaN (q2 (max3 x y z) (min3 x y z)) = false ∧ Float64.isInf (q2 (max3 x y z) (min3 x y z)) = false ∧ Flt.toInt Float64.truncOf (q2 (max3 x y z) (min3 x y z)) = max3 x y z - min3 x y z ∧
    (Float64.cmp 0 (sh2 (max3 x y z) (min3 x y z)) == some .lt) = decide (max3 x y z ≠ min3 x y z) ∧ (Float64.cmp (sh2 (max3 x y z) (min3 x y z)) 4607182418800017408 == some .lt) = (decide (max3 x y z = min3 x y z) || decide (0 < min3 x y z)) := by
  have hm := max12 hx hy hz
  have hn := min12 hx hy hz
  have le : min3 x y z ≤ max3 x y z := by rw [max3_is, min3_is]; omega
  have e := tab2 pair_tab hm hn
  unfold pairOk at e
  have h' : ¬ (max3 x y z).toNat < (min3 x y z).toNat := by have := hm.1; have := hn.1; omega
  have i1 : ((max3 x y z).toNat = (min3 x y z).toNat) ↔ max3 x y z = min3 x y z := by have := hm.1; have := hn.1; omega
  have i2 : (0 < (min3 x y z).toNat) ↔ 0 < min3 x y z := by omega
  simp only [toNat_back hm, toNat_back hn, h', decide_false, Bool.false_or, Bool.and_eq_true, Bool.not_eq_true', beq_iff_eq, ne_eq, i1, i2] at e
  obtain ⟨⟨⟨⟨⟨e1, e2⟩, e3⟩, e4⟩, e5⟩, e6⟩ := e
  exact ⟨by rw [e1]; rfl, e2, e3, e4, e5, e6⟩
end
theorem q2_is (x y z : Int) : Float64.add (Float64.mul (Float64.mul (Float64.ofInt 64) (hls x y z).2.1) (hls x y z).2.2) 4602678819172646912 = q2 (max3 x y z) (min3 x y z) := by
  rw [hls_light, hls_share]; rfl
section
variable {x y z : Int} (hx : In12 x) (hy : In12 y) (hz : In12 z)
include hx hy hz
theorem no_nan2 (h : Float64.isNaN (Float64.add (Float64.mul (Float64.mul (Float64.ofInt 64) (hls x y z).2.1) (hls x y z).2.2) 4602678819172646912) = true) : False := by
  rw [q2_is, (pair_facts hx hy hz).2.1] at h; cases h
theorem no_inf2 (h : Float64.isInf (Float64.add (Float64.mul (Float64.mul (Float64.ofInt 64) (hls x y z).2.1) (hls x y z).2.2) 4602678819172646912) = true) : False := by
  rw [q2_is, (pair_facts hx hy hz).2.2.1] at h; cases h
theorem no_big {M : Int} (h : 2 ^ 1024 - 2 ^ 970 ≤ (6 * if 1 > M then 1 else M).natAbs) (h1 : M = (if x - y < 0 then -(x - y) else x - y) ∨ M = (if y - z < 0 then -(y - z) else y - z) ∨ M = if z - x < 0 then -(z - x) else z - x)
    (h2 : (if x - y < 0 then -(x - y) else x - y) ≤ M ∧ (if y - z < 0 then -(y - z) else y - z) ≤ M ∧ (if z - x < 0 then -(z - x) else z - x) ≤ M) : False := by
  have e : M = max3 x y z - min3 x y z := spr_of h1 h2
  have m := spr12 hx hy hz
  rw [← e] at m
  have := m.1
  have := m.2
  have b : (6 * if 1 > M then 1 else M).natAbs ≤ 78 := by split <;> omega
  have c : (78 : Nat) < 2 ^ 1024 - 2 ^ 970 := by decide
  exact Nat.lt_irrefl _ (Nat.lt_of_lt_of_le c (Nat.le_trans h b))
theorem no_nan3 {M : Int} (h : Float64.isNaN (Float64.add (Float64.mul (Float64.ofInt (6 * if 1 > M then 1 else M)) (hls x y z).1) 4602678819172646912) = true) (h1 : M = (if x - y < 0 then -(x - y) else x - y) ∨ M = (if y - z < 0 then -(y - z) else y - z) ∨ M = if z - x < 0 then -(z - x) else z - x)
    (h2 : (if x - y < 0 then -(x - y) else x - y) ≤ M ∧ (if y - z < 0 then -(y - z) else y - z) ≤ M ∧ (if z - x < 0 then -(z - x) else z - x) ≤ M) : False := by
  have e : M = max3 x y z - min3 x y z := spr_of h1 h2
  subst e
  have := (hue_facts hx hy hz).1
  unfold q3 at this
  rw [this] at h; cases h
theorem no_inf3 {M : Int} (h : Float64.isInf (Float64.add (Float64.mul (Float64.ofInt (6 * if 1 > M then 1 else M)) (hls x y z).1) 4602678819172646912) = true) (h1 : M = (if x - y < 0 then -(x - y) else x - y) ∨ M = (if y - z < 0 then -(y - z) else y - z) ∨ M = if z - x < 0 then -(z - x) else z - x)
    (h2 : (if x - y < 0 then -(x - y) else x - y) ≤ M ∧ (if y - z < 0 then -(y - z) else y - z) ≤ M ∧ (if z - x < 0 then -(z - x) else z - x) ≤ M) : False := by
  have e : M = max3 x y z - min3 x y z := spr_of h1 h2
  subst e
  have := (hue_facts hx hy hz).2.1
  unfold q3 at this
  rw [this] at h; cases h
end
def mid (x y z : Int) : Bool := decide (0 < min3 x y z) && decide (min3 x y z < max3 x y z)
section
variable {x y z : Int} (hx : In12 x) (hy : In12 y) (hz : In12 z)
include hx hy hz
theorem mid_yes (h1 : (Float64.cmp 0 (hls x y z).2.2 == some Ordering.lt) = true) (h2 : (Float64.cmp (hls x y z).2.2 4607182418800017408 == some Ordering.lt) = true) : mid x y z = true := by
  have p := (pair_facts hx hy hz).2.2.2.2
  have le : min3 x y z ≤ max3 x y z := by rw [max3_is, min3_is]; omega
  rw [hls_share] at h1 h2
  rw [p.1] at h1
  rw [p.2] at h2
  unfold mid
  simp only [Bool.and_eq_true, Bool.or_eq_true, decide_eq_true_eq] at h1 h2 ⊢
  omega
theorem mid_no1 (h1 : (Float64.cmp 0 (hls x y z).2.2 == some Ordering.lt) = false) : mid x y z = false := by
  have p := (pair_facts hx hy hz).2.2.2.2
  rw [hls_share, p.1] at h1
  unfold mid
  simp only [Bool.and_eq_false_iff, decide_eq_false_iff_not] at h1 ⊢
  omega
theorem mid_no2 (h2 : (Float64.cmp (hls x y z).2.2 4607182418800017408 == some Ordering.lt) = false) : mid x y z = false := by
  have p := (pair_facts hx hy hz).2.2.2.2
  rw [hls_share, p.2] at h2
  unfold mid
  simp only [Bool.and_eq_false_iff, Bool.or_eq_false_iff, decide_eq_false_iff_not] at h2 ⊢
  omega
theorem no_nan6 (h : Float64.isNaN (Float64.add (Float64.mul (Float64.ofInt 6) (hls x y z).1) 4602678819172646912) = true) : False := by
  have := (hue_facts hx hy hz).2.2.2.1
  unfold q6 at this
  rw [this] at h; cases h
theorem no_inf6 (h : Float64.isInf (Float64.add (Float64.mul (Float64.ofInt 6) (hls x y z).1) 4602678819172646912) = true) : False := by
  have := (hue_facts hx hy hz).2.2.2.2
  unfold q6 at this
  rw [this] at h; cases h
end
end Mine
end

-- EqL
section
theorem Mine.fresh_EqL : True := by (w_top off; exact True.intro)
namespace Mine
open MeetsSeq SeqAt
theorem gives_fi {u : UInt64} {n : Int} {t t' : Tok} (h : (Float64.cmpInt u n == some .eq) = true) : EqGives (.float u t) (.int n t') true := fun prog w A E s Q hq => by
  unfold eqBool
  refine wpAny_holding ?_
  refine wpAny_ite_split (fun hab => wpAny_bind (wpAny_rule (wpAny_pure hq))) (fun _ => ?_)
  refine wpAny_bind ?_
  exact (show wpAny _ _ (compareOp .Eq (.float u t) (.int n t')) _ _ _ from eq_fi (by rw [h]; exact wpAny_truthy_bool hq))
theorem eqAt_ff {A : Around} {s : Shared} {u v : UInt64} {t t' : Tok} (h : (Float64.cmp u v == some .eq) = true) (ht : (t == 0 || t' == 0) = false) (hb : NoneBooked s.heap) : EqAt A s (.float u t) (.float v t') true := fun prog w E Q hq => by
  have rc : wpAny (model prog w) A (richCompare .Eq (.float u t) (.float v t') >>= fun r => truthOfDropped r) Q E s := by
    refine wpAny_bind ?_
    exact (show wpAny _ _ (compareOp .Eq (.float u t) (.float v t')) _ _ _ from AutoFloatOps.eq_0 (Q := fun r s' => wpAny (model prog w) A (truthOfDropped r) Q E s') (by rw [h]; exact wpAny_truthy_bool hq))
  have rest : ∀ b s', s' = s → wpAny (model prog w) A (if b = true then pure true else (richCompare .Eq (.float u t) (.float v t') >>= fun r => truthOfDropped r)) Q E s' := by
    rintro b s' rfl
    cases b
    · exact rc
    · exact wpAny_pure hq
  have cr : ∀ e : Bool, wpAny (model prog w) A (isSame.created e t t') (fun b s' => s' = s) E s := by
    intro e
    unfold isSame.created
    refine wpAny_ite ?_
    split
    · rename_i h0; rw [ht] at h0; exact absurd h0 Bool.false_ne_true
    refine wpAny_ite ?_
    split
    · exact wpAny_pure rfl
    refine wpAny_ite ?_
    split
    · exact wpAny_pure rfl
    refine wpAny_bind (wpAny_sharingNotTold_none hb ?_)
    first | rw [if_neg Bool.false_ne_true] | simp only [Bool.false_eq_true, if_false]
    refine wpAny_bind (wpAny_sharingNotTold_none hb ?_)
    first | rw [if_neg Bool.false_ne_true] | simp only [Bool.false_eq_true, if_false]
    exact wpAny_bind (wpAny_rule (wpAny_bind (wpAny_askSetting (wpAny_pure rfl))))
  unfold eqBool
  refine wpAny_holding ?_
  refine wpAny_ite_split (fun hab => wpAny_bind (wpAny_rule (wpAny_pure hq))) (fun _ => ?_)
  refine wpAny_bind ?_
  show wpAny _ _ (isSame.created (u == v && !Float64.isNaN u) t t') _ _ _
  exact wpAny_mono (cr _) (fun b s' hs => rest b s' hs) fun _ _ z => z
theorem gives_ii {a b : Int} {t t' : Tok} (h : a = b) : EqGives (.int a t) (.int b t') true := by
  have := EqGives.int a b t t'
  rw [h, beq_self_eq_true] at this
  rw [h]; exact this
section
variable {prog : Program} {w : World} {A : Around} {E : Value → Shared → Prop} {s : Shared}
theorem at3_of {x1 x2 x3 y1 y2 y3 : Value} {A : Around} {s : Shared} (e1 : EqAt A s x1 y1 true) (e2 : EqAt A s x2 y2 true) (e3 : EqAt A s x3 y3 true) :
    ∀ j (h1 : j < (#[x1, x2, x3] : Array Value).size) (h2 : j < (#[y1, y2, y3] : Array Value).size), EqAt A s (#[x1, x2, x3] : Array Value)[j] (#[y1, y2, y3] : Array Value)[j] ((fun _ => true) j)
  | 0, _, _ => e1
  | 1, _, _ => e2
  | 2, _, _ => e3
  | _ + 3, h1, _ => absurd h1 (by simp)
theorem ne_three {a b : Addr} {x1 x2 x3 y1 y2 y3 : Value} {Q : Value → Shared → Prop} (ha : s.heap.IsList a #[x1, x2, x3]) (hb : s.heap.IsList b #[y1, y2, y3]) (hu : A.units < cLine) (e1 : EqAt A.in1 s x1 y1 true) (e2 : EqAt A.in1 s x2 y2 true) (e3 : EqAt A.in1 s x3 y3 true)
    (h : Q (.bool false) s) : wpAny (model prog w) A (compareOp .NotEq (.ref a) (.ref b)) Q E s :=
  RcNeAt.lists ha hb rfl hu (at3_of e1 e2 e3) prog w E Q h
theorem rc_three {a b : Addr} {x1 x2 x3 y1 y2 y3 : Value} {A : Around} {s : Shared} (ha : s.heap.IsList a #[x1, x2, x3]) (hb : s.heap.IsList b #[y1, y2, y3]) (hu : A.units < cLine) (e1 : EqAt A.in1 s x1 y1 true) (e2 : EqAt A.in1 s x2 y2 true) (e3 : EqAt A.in1 s x3 y3 true) : RcAt A s (.ref a) (.ref b) true :=
  RcAt.lists ha hb rfl hu (at3_of e1 e2 e3)
theorem eq_three {a b : Addr} {x1 x2 x3 y1 y2 y3 : Addr} {Q : Value → Shared → Prop} (ha : s.heap.IsList a #[.ref x1, .ref x2, .ref x3]) (hb : s.heap.IsList b #[.ref y1, .ref y2, .ref y3]) (hu : A.units < cLine)
    (n1 : x1 ≠ y1) (n2 : x2 ≠ y2) (n3 : x3 ≠ y3) (e1 : RcAt A.in1 s (.ref x1) (.ref y1) true) (e2 : RcAt A.in1 s (.ref x2) (.ref y2) true) (e3 : RcAt A.in1 s (.ref x3) (.ref y3) true)
    (h : Q (.bool true) s) : wpAny (model prog w) A (compareOp .Eq (.ref a) (.ref b)) Q E s :=
  eq_listAt ha hb rfl hu (at3_of (.of_refs n1 e1) (.of_refs n2 e2) (.of_refs n3 e3)) h
end
end Mine
end

-- Law0
section
theorem Mine.fresh_Law0 : True := by (w_top off; exact True.intro)
open PySem PySem.W PyProof.Rows PySem.Flt
namespace Mine
abbrev Tri := Int × Int × Int
/-- the run as the law walks it: how many colours have a share between 0 and 1, and the others, the last one first -/
def loopD : Nat → Int → Int → Int → Int → List Tri → Option (Int × List Tri)
  | 0, _, _, _, _, _ => none
  | n + 1, x, y, z, k, es =>
    if mid (absd x y) (absd y z) (absd z x) then loopD n (absd x y) (absd y z) (absd z x) (k + 1) es
    else if es.length = 2 then some (k, (absd x y, absd y z, absd z x) :: es)
    else loopD n (absd x y) (absd y z) (absd z x) k ((absd x y, absd y z, absd z x) :: es)
def tri (d p : Int) : Tri := if p = 0 then (0, d, d) else if p = 1 then (d, 0, d) else (d, d, 0)
def zix (e : Tri) : Int := if e.1 = 0 then 0 else if e.2.1 = 0 then 1 else 2
def finOk (x y z : Int) : Bool := match loopD 20 x y z 0 [] with
  | some (k, [e3, e2, e1]) => (k == (eucOf x y z).1) && decide (0 ≤ (eucOf x y z).2 ∧ (eucOf x y z).2 ≤ 12) && (if (eucOf x y z).2 = 0 then e1 == (0, 0, 0) && e2 == (0, 0, 0) && e3 == (0, 0, 0)
      else e1 == tri (eucOf x y z).2 ((zix e3 + 1).emod 3) && e2 == tri (eucOf x y z).2 ((zix e3 + 2).emod 3) && e3 == tri (eucOf x y z).2 (zix e3))
  | _ => false
def forceI (x : Int) (f : Int → Bool) : Bool := match x with
  | .ofNat n => forceN n fun k => f (.ofNat k)
  | .negSucc n => forceN n fun k => f (.negSucc k)
theorem forceI_eq (x : Int) (f : Int → Bool) : forceI x f = f x := by
  cases x <;> simp only [forceI, forceN_eq]
def loopF : Nat → Int → Int → Int → Int → List Tri → (Option (Int × List Tri) → Bool) → Bool
  | 0, _, _, _, _, _, f => f none
  | n + 1, x, y, z, k, es, f => forceI (absd x y) fun a => forceI (absd y z) fun b => forceI (absd z x) fun c =>
    if mid a b c then forceI (k + 1) fun k' => loopF n a b c k' es f
    else if es.length = 2 then f (some (k, (a, b, c) :: es))
    else loopF n a b c k ((a, b, c) :: es) f
theorem loopF_eq : ∀ (n : Nat) (x y z k : Int) (es : List Tri) (f : Option (Int × List Tri) → Bool), loopF n x y z k es f = f (loopD n x y z k es)
  | 0, _, _, _, _, _, _ => rfl
  | n + 1, x, y, z, k, es, f => by
    unfold loopF loopD
    simp only [forceI_eq, loopF_eq n]
    split
    · rfl
    · split <;> rfl
def finOkF (x y z : Int) : Bool := forceI (eucOf x y z).1 fun q => forceI (eucOf x y z).2 fun g => loopF 20 x y z 0 [] fun r => match r with
  | some (k, [e3, e2, e1]) => (k == q) && decide (0 ≤ g ∧ g ≤ 12) && (if g = 0 then e1 == (0, 0, 0) && e2 == (0, 0, 0) && e3 == (0, 0, 0)
      else e1 == tri g ((zix e3 + 1).emod 3) && e2 == tri g ((zix e3 + 2).emod 3) && e3 == tri g (zix e3))
  | _ => false
theorem finOkF_eq (x y z : Int) : finOkF x y z = finOk x y z := by
  unfold finOkF finOk
  simp only [forceI_eq, loopF_eq]
theorem fin_tabF : (allB 13 fun i => allB 13 fun j => allB 13 fun k => finOkF i j k) = true := by decide +kernel
theorem fin_tab : (allB 13 fun i => allB 13 fun j => allB 13 fun k => finOk i j k) = true := by
  have h := fin_tabF
  simp only [finOkF_eq] at h
  exact h
theorem fin_of {x y z : Int} (hx : In12 x) (hy : In12 y) (hz : In12 z) : ∃ e3 e2 e1 : Tri, loopD 20 x y z 0 [] = some ((eucOf x y z).1, [e3, e2, e1]) ∧ In12 (eucOf x y z).2 ∧
    ((eucOf x y z).2 = 0 → e1 = (0, 0, 0) ∧ e2 = (0, 0, 0) ∧ e3 = (0, 0, 0)) ∧
    ((eucOf x y z).2 ≠ 0 → e1 = tri (eucOf x y z).2 ((zix e3 + 1).emod 3) ∧ e2 = tri (eucOf x y z).2 ((zix e3 + 2).emod 3) ∧ e3 = tri (eucOf x y z).2 (zix e3)) := by
  have h := tab3 fin_tab hx hy hz
  simp only [toNat_back hx, toNat_back hy, toNat_back hz] at h
  unfold finOk at h
  split at h
  · rename_i k e3 e2 e1 he
    simp only [Bool.and_eq_true, beq_iff_eq, decide_eq_true_eq] at h
    obtain ⟨⟨hk, hd⟩, h⟩ := h
    refine ⟨e3, e2, e1, by rw [he, hk], hd, fun h0 => ?_, fun h0 => ?_⟩
    · rw [if_pos h0] at h
      simp only [Bool.and_eq_true, beq_iff_eq] at h
      exact ⟨h.1.1, h.1.2, h.2⟩
    · rw [if_neg h0] at h
      simp only [Bool.and_eq_true, beq_iff_eq] at h
      exact ⟨h.1.1, h.1.2, h.2⟩
  · cases h
def hueInt (x y z : Int) : Int := Flt.toInt Float64.truncOf (q6 (hls x y z).1)
def triOk (d p : Int) : Bool := (hueInt (tri d p).1 (tri d p).2.1 (tri d p).2.2 == (3 + 2 * p).emod 6) && (Float64.cmpInt (l64 (max3 (tri d p).1 (tri d p).2.1 (tri d p).2.2) (min3 (tri d p).1 (tri d p).2.1 (tri d p).2.2)) d == some .eq) &&
  (Float64.cmp (sh2 (max3 (tri d p).1 (tri d p).2.1 (tri d p).2.2) (min3 (tri d p).1 (tri d p).2.1 (tri d p).2.2)) 4607182418800017408 == some .eq)
theorem tri_tab : (allB 13 fun d => decide (d = 0) || (triOk d 0 && triOk d 1 && triOk d 2)) = true := by decide +kernel
theorem tri_of {d p : Int} (hd : In12 d) (h0 : d ≠ 0) (hp : p = 0 ∨ p = 1 ∨ p = 2) : triOk d p = true := by
  have e := allB_at tri_tab d.toNat (by have := hd.1; have := hd.2; omega)
  have h0' : ¬ d.toNat = 0 := by have := hd.1; omega
  simp only [toNat_back hd, h0', decide_false, Bool.false_or, Bool.and_eq_true] at e
  rcases hp with rfl | rfl | rfl
  · exact e.1.1
  · exact e.1.2
  · exact e.2
theorem zix_of (e : Tri) : zix e = 0 ∨ zix e = 1 ∨ zix e = 2 := by unfold zix; split; exact .inl rfl; split; exact .inr (.inl rfl); exact .inr (.inr rfl)
theorem zero_ok : (hueInt 0 0 0 == 0) = true ∧ (Float64.cmp (l64 (max3 0 0 0) (min3 0 0 0)) 0 == some .eq) = true ∧ (Float64.cmp (sh2 (max3 0 0 0) (min3 0 0 0)) 0 == some .eq) = true := by decide +kernel
end Mine
end

-- CmpT
section
theorem Mine.fresh_CmpT : True := by (w_top off; exact True.intro)
namespace Mine
open LCg
def SrcAtT (ax : Addr) (its : Array Value) (news : List (Addr × Obj)) : Prop := ∃ o, (ax, o) ∈ news ∧ o.cls = .type "tuple" ∧ ∃ n, o.data = .seq its n
theorem SrcAtT.tup {h₀ h : Heap} {L ax : Addr} {its : Array Value} {news : List (Addr × Obj)} (x : SrcAtT ax its news) (N : News h₀ L h news) : h.IsTuple ax its := by
  obtain ⟨o, hm, r⟩ := x
  exact ⟨o, (N _ hm).1, r⟩
def CompSrcT (prog : Program) (w : World) (A : Around) (h₀ : Heap) (L : Addr) (m : Str → Option Value) (env : Env) (elt : Expr) (x : Str) (scope : Scope) (cl : List (Str × Addr)) (Fin : Shared → List Value → List (Addr × Obj) → Prop) (xv : Value) (s₁ : Shared) : Prop :=
  ∃ ax its news, xv = .ref ax ∧ A.handled = none ∧ Fr h₀ L s₁.heap m ∧ News h₀ L s₁.heap news ∧ SrcAtT ax its news ∧ its.size ≤ sizeLine ∧
    ∀ s₂ : Shared, (∃ h, s₂ = { s₁ with heap := h }) → CompRest prog w A h₀ L m env elt x scope cl s₂ (SrcAtT ax its) (fun i v => its[i]? = some v) (Fin s₂) its.size 0 [] news
section
variable {prog : Program} {w : World} {A : Around} {E : Value → Shared → Prop} {s : Shared} {h₀ : Heap} {L : Addr} {m : Str → Option Value} {env : Env}
theorem CompSrcT.ledger {elt : Expr} {x : Str} {scope : Scope} {cl : List (Str × Addr)} {Fin : Shared → List Value → List (Addr × Obj) → Prop} {ax : Addr} {o : Obj} {its : Array Value} {k : Nat} {news : List (Addr × Obj)} {s₁ : Shared}
    (hh : A.handled = none) (F : Fr h₀ L s₁.heap m) (N : News h₀ L s₁.heap news) (hm : (ax, o) ∈ news) (ho : o.cls = .type "tuple") (hd : o.data = .seq its k) (hsz : its.size ≤ sizeLine)
    (h : ∀ g, CompRest prog w A h₀ L m env elt x scope cl { s₁ with heap := g } (SrcAtT ax its) (fun i v => its[i]? = some v) (Fin { s₁ with heap := g }) its.size 0 [] news) :
    CompSrcT prog w A h₀ L m env elt x scope cl Fin (.ref ax) s₁ := ⟨ax, its, news, rfl, hh, F, N, ⟨_, hm, ho, _, hd⟩, hsz, fun _ ⟨g, e⟩ => e ▸ h g⟩
theorem tuple_st {ax I : Addr} {its : Array Value} : ∀ i (h h' : Heap) (o : Obj) (nw : List (Addr × Obj)), (h.IsTupleIter I ax i ∧ h.IsTuple ax its) → h.get? I = some o → h'.get? I = some o → (∀ b o, h₀.get? b = some o → h'.get? b = some o) → News h₀ L h' nw → SrcAtT ax its nw → (h'.IsTupleIter I ax i ∧ h'.IsTuple ax its) :=
  fun i h h' o nw st e e' k N S => ⟨by obtain ⟨o', q, r⟩ := st.1; rw [e] at q; cases q; exact ⟨o, e', r⟩, S.tup N⟩
theorem ListComp_Tup {elt iter : Expr} {x : Str} {px : Pos} {scope : Scope} {cl : List (Str × Addr)} {pos : Pos} {Q : Value → Shared → Prop} (_F₀ : Fr h₀ L s.heap m)
    (hclos : closureFor scope env = pure cl) (hcell : ∀ y ∈ scope.names, y.2 ≠ .cell) (hkind : scope.kind = .function)
    (hnames : ∀ y ∈ scope.names, y.2 = .local → scope.names.lookup y.1 = some .local) (hx : scope.names.lookup x = some .local)
    (h : wpAny (model prog w) A (eval iter env) (CompSrcT prog w A h₀ L m env elt x scope cl (fun s₂ => FinE h₀ L m s₂ Q)) E s)
    (hs : ∀ x, foldedSetIterable iter env x = pure x := by intro _; rfl) :
    wpAny (model prog w) A (eval (.ListComp elt [⟨.Name x px, iter, [], 0⟩] scope pos) env) Q E s := by
  rw [eval_ListComp]
  refine wpAny_comprehension_free (use := none) rfl hs hclos hkind hnames (wpAny_mono h (fun xv s₁ h₁ => ?_) fun _ _ e => e)
  obtain ⟨ax, its, news, rfl, hh, F, N, S, hsz, R⟩ := h₁
  have hl := S.tup N
  have hlt : ax < s₁.heap.objs.size := by obtain ⟨_, e, _⟩ := hl; exact Heap.lt_size e
  refine wpAny_pyIter_tuple hl ?_
  have up : ∀ b o, s₁.heap.get? b = some o → (s₁.heap.push { cls := .type "tuple_iterator", data := .fields #[.ref ax, .int 0 0] }).get? b = some o := fun b o e => Heap.get?_push_of_some _ e
  refine block_U (Walks.tuple hh s₁.heap.objs.size ax (Nat.ne_of_lt hlt) its) hsz (fun i h st => by obtain ⟨o, e, _⟩ := st.1; exact ⟨o, e⟩) tuple_st hcell hkind hx ⟨⟨_, Heap.get?_push_size _ rfl, rfl, rfl⟩, hl.push _⟩ (fun b hb => ?_)
    (F.keeps up) (N.grown up) (Nat.ne_of_lt F.ns.lt) (next_is_new F) (fun p hp => Nat.ne_of_lt (Heap.lt_size (N p hp).1)) S (R _ ⟨_, rfl⟩) ?_
  · show b < (s₁.heap.push _).objs.size
    rw [Heap.size_push]
    rcases List.mem_cons.mp hb with rfl | hb
    · exact Nat.lt_succ_self _
    · rw [List.mem_singleton.mp hb]; exact Nat.lt_succ_of_lt hlt
  · intro D C h tk m' ys news' F' N' o1 hn hC₀ hD₀ hCL hDL hCD offC fin
    refine ⟨m', hn, fun h'' hs'' => fin D h'' tk (F'.change hs'' hCL hC₀) (fun p hp => ?_) o1⟩
    refine ⟨hs''.extBut _ _ ?_ (N' p hp).1, (N' p hp).2⟩
    rcases List.mem_cons.mp hp with rfl | hp
    · exact Ne.symm hCD
    · exact offC p hp
end
end Mine
end

-- CtR
section
theorem Mine.fresh_CtR : True := by (w_top off; exact True.intro)
namespace Mine
open PySem.W.X
local macro_rules | `(tactic| walk_at "call ref") => `(tactic| ((with_reducible show wpAny _ _ (PySem.call (Value.ref 210) _) _ _ _); refine Stop.mk' ?_))
local macro_rules | `(tactic| walk_at "call ref") => `(tactic| ((with_reducible show wpAny _ _ (PySem.call (Value.ref 217) _) _ _ _); refine Stop.mk' ?_))
local macro_rules | `(tactic| walk_at "call ref") => `(tactic| ((with_reducible show wpAny _ _ (PySem.call (Value.ref 203) _) _ _ _); refine Stop.mk' ?_))
local macro_rules | `(tactic| walk_at "call ref") => `(tactic| ((with_reducible show wpAny _ _ (PySem.call (Value.ref 224) _) _ _ _); refine Stop.mk' ?_))
local macro_rules | `(tactic| walk_at "binaryOp Mult ref int") => `(tactic| refine Stop.mk' ?_)
local macro_rules | `(tactic| walk_at "eval ListComp") => `(tactic| refine Stop.mk' ?_)
local macro_rules | `(tactic| walk_at "CompEnd") => `(tactic| refine Stop.mk' ?_)
local macro_rules | `(tactic| walk_at "exec For Name Call cons nil") => `(tactic| refine Stop.mk' ?_)
local macro_rules | `(tactic| walk_at "compareOp NotEq ref ref") => `(tactic| refine Stop.mk' ?_)
local macro_rules | `(tactic| walk_at "compareOp Eq ref ref") => `(tactic| refine Stop.mk' ?_)
local macro_rules | `(tactic| walk_at "call builtin:len") => `(tactic| refine Stop.mk' ?_)
local macro_rules | `(tactic| walk_at "call builtin:list.append") => `(tactic| refine Stop.mk' ?_)
local macro_rules | `(tactic| k_room) => `(tactic| ktr_room)
local macro_rules | `(tactic| k_units) => `(tactic| ktr_units)
theorem ne5 {d a1 a2 a3 a4 a5 : Addr} {o1 o2 o3 o4 o5 : Obj} {r : List (Addr × Obj)} (h1 : a1 ≠ d) (h2 : a2 ≠ d) (h3 : a3 ≠ d) (h4 : a4 ≠ d) (h5 : a5 ≠ d) (h : ∀ q ∈ r, q.1 ≠ d) : ∀ q ∈ (a1, o1) :: (a2, o2) :: (a3, o3) :: (a4, o4) :: (a5, o5) :: r, q.1 ≠ d := by
  intro q hq
  simp only [List.mem_cons] at hq
  rcases hq with rfl | rfl | rfl | rfl | rfl | hq
  · exact h1
  · exact h2
  · exact h3
  · exact h4
  · exact h5
  · exact h q hq
theorem ct1_use {w : World} {k : Nat} {f : Addr} {vs : List Value} {Out : Value → Prop} (C : Ct1 w k f vs Out)
    {p : Program} {loose : List Str} {mean : ExcName → Option Value} {mg mb : Str → Option Value} {dp un : Nat} {gd : Option (List Code)} {cn : Str} {cs : Scope} {a : Addr} {ccd : Value} {cl : List (Str × Addr)} {outer : List Env} {A₀ : Around} {base h₀ : Heap} {L : Addr} {m : Str → Option Value} {ps : Array Value} {news : List (Addr × Obj)} {s : Shared} {Q E : Value → Shared → Prop}
    (B : Below A₀ base outer h₀) (F : Fr h₀ L s.heap m) (X : (Mine.hd.heap_1 w.params).In h₀) (N : News h₀ L s.heap ((147, tableObj ps) :: news)) (hT : TriplesOk ps.toList) (hn : ∀ p ∈ news, p.1 ≠ 147) (T : Top p loose mean mg mb h₀) (hk : cs.kind = .function) (hb : AllBare s.gens) (hd : dp + k < 800) (hu : un + 16 * k < 8000)
    (ret : ∀ r ps' h' tk' g', Fr h₀ L h' m → News h₀ L h' ((147, tableObj ps') :: news) → TriplesOk ps'.toList → AllBare g' → Out r → Q r ⟨h', g', s.drawn, tk', s.os⟩) :
    wpAny (model PySem.Challenge.rw_wu0076_01.row.prog w) (ktrTop dp un gd cn cs L a ccd cl outer) (call (.ref f) vs) Q E s :=
  C p loose mean mg mb dp un gd cn cs a ccd cl outer A₀ base h₀ L m ps news s Q E B F X N hT hn T hk hb hd hu ret
theorem allLt_mono {a b : Addr} (h : a ≤ b) : ∀ {l : List (Addr × Obj)}, AllLt a l → AllLt b l
  | [], _ => trivial
  | _ :: _, z => ⟨Nat.lt_of_lt_of_le z.1 h, allLt_mono h z.2⟩
theorem allLt_ne {d : Addr} {l : List (Addr × Obj)} : AllLt d l → ∀ q ∈ l, q.1 ≠ d := by
  induction l with
  | nil => intro _ q hq; cases hq
  | cons a r ih =>
    intro z q hq
    rcases List.mem_cons.mp hq with rfl | hq
    · exact Nat.ne_of_lt z.1
    · exact ih z.2 q hq
theorem no_neg {x y z M : Int} (h : M < 0) (h1 : M = absd x y ∨ M = absd y z ∨ M = absd z x) : False := by
  have a1 := absd_is x y
  have a2 := absd_is y z
  have a3 := absd_is z x
  omega
theorem mod12 (n : Int) : In12 (n.fmod 13) := by
  have h1 := Int.fmod_nonneg_of_pos n (show (0 : Int) < 13 by decide)
  have h2 := Int.fmod_lt_of_pos n (show (0 : Int) < 13 by decide)
  exact ⟨h1, by omega⟩
def entObj (e : Tri) (t1 t2 t3 : Tok) : Obj := W.listOf #[.int (hueInt e.1 e.2.1 e.2.2) t1, .float (l64 (max3 e.1 e.2.1 e.2.2) (min3 e.1 e.2.1 e.2.2)) t2, .float (sh2 (max3 e.1 e.2.1 e.2.2) (min3 e.1 e.2.1 e.2.2)) t3] 0
def EndsR : List Tri → List Value → List (Addr × Obj) → Prop
  | [], [], [] => True
  | e :: es, v :: vs, p :: inn => (∃ t1 t2 t3, v = .ref p.1 ∧ p.2 = entObj e t1 t2 t3 ∧ (t2 == 0) = false ∧ (t3 == 0) = false) ∧ EndsR es vs inn
  | _, _, _ => False
local macro_rules | `(tactic| k_all) => `(tactic| assumption)
abbrev itO (x left : Int) : Obj := { cls := .type "range_iterator", dict := none, data := .fields #[rawInt x, rawInt left, rawInt 1], slots := #[] }
theorem news_swap {h₀ h : Heap} {L : Addr} {a b : Addr × Obj} {r : List (Addr × Obj)} (N : News h₀ L h (a :: b :: r)) : News h₀ L h (b :: a :: r) := fun q hq => N q (by
  simp only [List.mem_cons] at hq ⊢
  rcases hq with hq | hq | hq <;> simp [hq])
theorem news_order8 {h₀ h : Heap} {L : Addr} {a b c d e f g t : Addr × Obj} {r : List (Addr × Obj)} (N : News h₀ L h (a :: b :: c :: d :: e :: f :: g :: t :: r)) : News h₀ L h (a :: t :: b :: e :: f :: g :: r) := fun q hq => N q (by
  simp only [List.mem_cons] at hq ⊢
  rcases hq with hq | hq | hq | hq | hq | hq | hq <;> simp [hq])
theorem fr7 {h₀ h : Heap} {L : Addr} {m : Str → Option Value} {a1 a2 a3 a4 a5 a6 a7 : Str} {v1 v2 v3 v4 v5 v6 v7 : Option Value} (F : Fr h₀ L h m)
    (h1 : m a1 = v1) (h2 : m a2 = v2) (h3 : m a3 = v3) (h4 : m a4 = v4) (h5 : m a5 = v5) (h6 : m a6 = v6) (h7 : m a7 = v7) :
    Fr h₀ L h (fun y => if y = a1 then v1 else if y = a2 then v2 else if y = a3 then v3 else if y = a4 then v4 else if y = a5 then v5 else if y = a6 then v6 else if y = a7 then v7 else m y) := by
  have e : (fun y => if y = a1 then v1 else if y = a2 then v2 else if y = a3 then v3 else if y = a4 then v4 else if y = a5 then v5 else if y = a6 then v6 else if y = a7 then v7 else m y) = m := by
    funext y
    repeat' split
    all_goals first | rfl | (subst_vars; rfl)
  rw [e]; exact F
def LoopI (hb : Heap) (L' it le : Addr) (o2 o1 : Obj) (news : List (Addr × Obj)) (fin : Option (Int × List Tri)) (q : Int) (tq : Tok) (d : Drawn) (os : OsState) (n : Nat) (s : Shared) : Prop :=
  ∃ (h : Heap) (g : Array GenState) (tk : Nat) (m : Str → Option Value) (x y z : Int) (tx ty tz th tl ts tg : Tok) (lp : Addr) (np ne : Nat) (k : Int) (es : List Tri) (vs : List Value) (inn : List (Addr × Obj)) (ps : Array Value),
    s = ⟨h, g, d, tk, os⟩ ∧ In12 x ∧ In12 y ∧ In12 z ∧ EndsR es vs inn ∧ es.length < 3 ∧ (ts == 0) = false ∧ TriplesOk ps.toList ∧ AllBare g ∧ Fr hb L' h m ∧
    m (Str.ofString "parts") = some (.ref lp) ∧ m (Str.ofString "hue") = some (.float (hls x y z).1 th) ∧ m (Str.ofString "light") = some (.float (hls x y z).2.1 tl) ∧ m (Str.ofString "share") = some (.float (hls x y z).2.2 ts) ∧
    m (Str.ofString "going") = some (.int k tg) ∧ m (Str.ofString "ends") = some (.ref le) ∧ m (Str.ofString "quotients") = some (.int q tq) ∧
    News hb L' h ((it, itO (20 - n) n) :: (147, tableObj ps) :: (le, W.listOf vs.reverse.toArray ne) :: (lp, W.listOf #[.int x tx, .int y ty, .int z tz] np) :: (L' + 1 + 1, o2) :: (L' + 1, o1) :: (inn ++ news)) ∧
    L' + 1 + 1 < lp ∧ lp ≠ le ∧ lp ≠ it ∧ (∀ q ∈ inn ++ news, q.1 ≠ le) ∧ (∀ q ∈ inn ++ news, q.1 ≠ it) ∧ (∀ q ∈ inn ++ news, q.1 ≠ 147) ∧ (∀ q ∈ inn ++ news, q.1 ≠ L' + 1 + 1) ∧ (∀ q ∈ inn ++ news, q.1 ≠ L' + 1) ∧
    loopD n x y z k es = fin
/-- what stands when the loop is left -/
def PostI (hb : Heap) (L' le : Addr) (o2 o1 : Obj) (news : List (Addr × Obj)) (fin : Option (Int × List Tri)) (q : Int) (tq : Tok) (d : Drawn) (os : OsState) (s : Shared) : Prop :=
  ∃ (h : Heap) (g : Array GenState) (tk : Nat) (m : Str → Option Value) (x y z : Int) (tx ty tz tg : Tok) (lp : Addr) (np ne : Nat) (k : Int) (es : List Tri) (vs : List Value) (inn : List (Addr × Obj)) (ps : Array Value),
    s = ⟨h, g, d, tk, os⟩ ∧ EndsR ((x, y, z) :: es) vs inn ∧ es.length = 2 ∧ TriplesOk ps.toList ∧ AllBare g ∧ Fr hb L' h m ∧
    m (Str.ofString "parts") = some (.ref lp) ∧ m (Str.ofString "going") = some (.int k tg) ∧ m (Str.ofString "ends") = some (.ref le) ∧ m (Str.ofString "quotients") = some (.int q tq) ∧
    News hb L' h ((147, tableObj ps) :: (le, W.listOf vs.reverse.toArray ne) :: (lp, W.listOf #[.int x tx, .int y ty, .int z tz] np) :: (L' + 1 + 1, o2) :: (L' + 1, o1) :: (inn ++ news)) ∧
    L' + 1 + 1 < lp ∧ (∀ q ∈ inn ++ news, q.1 ≠ L' + 1 + 1) ∧ fin = some (k, (x, y, z) :: es)
theorem compEnd_take {h₀ : Heap} {L I C D : Addr} {m : Str → Option Value} {s₁ : Shared} {oI oC oD : Obj} {S : List (Addr × Obj) → Prop} {rest : Value → List (Addr × Obj) → Prop} {y : Value} {h' : Heap} {tk : Nat} {el : Addr × Obj} {r : List (Addr × Obj)}
    (F : Fr h₀ L h' m) (N : News h₀ L h' (el :: (I, oI) :: (C, oC) :: (D, oD) :: r)) (off : LCg.Off3 I C D r) (n1 : el.1 ≠ I) (n2 : el.1 ≠ C) (n3 : el.1 ≠ D) (hS : S (el :: r)) (hr : rest y (el :: r)) :
    LCg.CompEnd h₀ L m s₁ I oI C oC D oD S rest y { s₁ with heap := h', toks := tk } :=
  LCg.CompEnd.intro F N (el :: r) (fun p hp => by
    simp only [List.mem_cons] at hp ⊢
    rcases hp with hp | hp | hp | hp | hp <;> simp [hp]) ⟨⟨n1, n2, n3⟩, off⟩ hS hr
theorem tri_facts {d p v : Int} {e : Tri} (hd : In12 d) (h0 : d ≠ 0) (hp : p = 0 ∨ p = 1 ∨ p = 2) (he : e = tri d p) (hv : (3 + 2 * p).emod 6 = v) :
    hueInt e.1 e.2.1 e.2.2 = v ∧ (Float64.cmpInt (l64 (max3 e.1 e.2.1 e.2.2) (min3 e.1 e.2.1 e.2.2)) d == some .eq) = true ∧ (Float64.cmp (sh2 (max3 e.1 e.2.1 e.2.2) (min3 e.1 e.2.1 e.2.2)) 4607182418800017408 == some .eq) = true := by
  have h := tri_of hd h0 hp
  unfold triOk at h
  rw [← he] at h
  simp only [Bool.and_eq_true] at h
  exact ⟨(eq_of_beq h.1.1).trans hv, h.1.2, h.2⟩
theorem tri_all {d : Int} {j : Nat} {e1 e2 e3 : Tri} (hd : In12 d) (h0 : d ≠ 0) (hj : (j : Int) = zix e3) (z1 : e1 = tri d ((zix e3 + 1).emod 3)) (z2 : e2 = tri d ((zix e3 + 2).emod 3)) (z3 : e3 = tri d (zix e3)) :
    (hueInt e1.1 e1.2.1 e1.2.2 = (2 * (j : Int) + 3 + 2 * 1).fmod 6 ∧ (Float64.cmpInt (l64 (max3 e1.1 e1.2.1 e1.2.2) (min3 e1.1 e1.2.1 e1.2.2)) d == some .eq) = true ∧ (Float64.cmp (sh2 (max3 e1.1 e1.2.1 e1.2.2) (min3 e1.1 e1.2.1 e1.2.2)) 4607182418800017408 == some .eq) = true) ∧
    (hueInt e2.1 e2.2.1 e2.2.2 = (2 * (j : Int) + 3 + 2 * 2).fmod 6 ∧ (Float64.cmpInt (l64 (max3 e2.1 e2.2.1 e2.2.2) (min3 e2.1 e2.2.1 e2.2.2)) d == some .eq) = true ∧ (Float64.cmp (sh2 (max3 e2.1 e2.2.1 e2.2.2) (min3 e2.1 e2.2.1 e2.2.2)) 4607182418800017408 == some .eq) = true) ∧
    (hueInt e3.1 e3.2.1 e3.2.2 = (2 * (j : Int) + 3 + 2 * 3).fmod 6 ∧ (Float64.cmpInt (l64 (max3 e3.1 e3.2.1 e3.2.2) (min3 e3.1 e3.2.1 e3.2.2)) d == some .eq) = true ∧ (Float64.cmp (sh2 (max3 e3.1 e3.2.1 e3.2.2) (min3 e3.1 e3.2.1 e3.2.2)) 4607182418800017408 == some .eq) = true) := by
  have hz := zix_of e3
  rw [← hj] at z1 z2 z3 hz
  rcases hz with hz | hz | hz <;> rw [hz] at z1 z2 z3 ⊢
  · exact ⟨tri_facts hd h0 (by decide) z1 (by decide), tri_facts hd h0 (by decide) z2 (by decide), tri_facts hd h0 (by decide) z3 (by decide)⟩
  · exact ⟨tri_facts hd h0 (by decide) z1 (by decide), tri_facts hd h0 (by decide) z2 (by decide), tri_facts hd h0 (by decide) z3 (by decide)⟩
  · exact ⟨tri_facts hd h0 (by decide) z1 (by decide), tri_facts hd h0 (by decide) z2 (by decide), tri_facts hd h0 (by decide) z3 (by decide)⟩
theorem zpos {x y z d : Int} {e : Tri} (h : (x, y, z) = tri d (zix e)) (hd : d ≠ 0) : ∃ j : Nat, (j : Int) = zix e ∧ [x, y, z].idxOf 0 = j ∧ (0 : Int) ∈ [x, y, z] := by
  rcases zix_of e with hz | hz | hz <;> rw [hz] at h ⊢ <;> simp only [tri] at h <;> cases h
  · exact ⟨0, rfl, idx0 rfl, by simp⟩
  · exact ⟨1, rfl, idx1 hd rfl, by simp⟩
  · exact ⟨2, rfl, idx2 hd hd rfl, by simp⟩
theorem ends_len {es : List Tri} {vs : List Value} {inn : List (Addr × Obj)} (h : EndsR es vs inn) : vs.length = es.length := by
  induction es generalizing vs inn with
  | nil => cases vs <;> cases inn <;> first | rfl | exact h.elim
  | cons e es ih =>
    cases vs with
    | nil => cases inn <;> exact h.elim
    | cons v vs => cases inn with
      | nil => exact h.elim
      | cons p inn => rw [List.length_cons, List.length_cons, ih h.2]
theorem ends_three {a b c : Tri} {vs : List Value} {inn : List (Addr × Obj)} (h : EndsR [a, b, c] vs inn) : ∃ (q3 q2 q1 : Addr) (t11 t12 t13 t21 t22 t23 t31 t32 t33 : Tok), vs = [.ref q3, .ref q2, .ref q1] ∧ inn = [(q3, entObj a t11 t12 t13), (q2, entObj b t21 t22 t23), (q1, entObj c t31 t32 t33)] ∧
    (t12 == 0) = false ∧ (t13 == 0) = false ∧ (t22 == 0) = false ∧ (t23 == 0) = false ∧ (t32 == 0) = false ∧ (t33 == 0) = false := by
  cases vs with
  | nil => cases inn <;> exact h.elim
  | cons v3 vs => cases inn with
    | nil => exact h.elim
    | cons p3 inn =>
      obtain ⟨⟨a1, a2, a3, r1, r2, r3, r4⟩, h⟩ := h
      cases vs with
      | nil => cases inn <;> exact h.elim
      | cons v2 vs => cases inn with
        | nil => exact h.elim
        | cons p2 inn =>
          obtain ⟨⟨b1, b2, b3, s1, s2, s3, s4⟩, h⟩ := h
          cases vs with
          | nil => cases inn <;> exact h.elim
          | cons v1 vs => cases inn with
            | nil => exact h.elim
            | cons p1 inn =>
              obtain ⟨⟨c1, c2, c3, u1, u2, u3, u4⟩, h⟩ := h
              cases vs with
              | cons _ _ => cases inn <;> exact h.elim
              | nil => cases inn with
                | cons _ _ => exact h.elim
                | nil =>
                  obtain ⟨p3a, p3o⟩ := p3
                  obtain ⟨p2a, p2o⟩ := p2
                  obtain ⟨p1a, p1o⟩ := p1
                  dsimp only at r1 r2 s1 s2 u1 u2
                  subst r1 r2 s1 s2 u1 u2
                  exact ⟨p3a, p2a, p1a, a1, a2, a3, b1, b2, b3, c1, c2, c3, rfl, rfl, r3, r4, s3, s4, u3, u4⟩
theorem newsSub {h₀ h : Heap} {L : Addr} {l l' : List (Addr × Obj)} (N : News h₀ L h l) (k : ∀ q, q ∈ l' → q ∈ l) : News h₀ L h l' := fun q hq => N q (k q hq)
theorem booked_keeps {h h' : Heap} (x : NoneBooked h) (k : ∀ b o, h.get? b = some o → h'.get? b = some o) : NoneBooked h' := let ⟨mc, a, b⟩ := x; ⟨mc, a.keeps k, b⟩
theorem push_rev (v : Value) (vs : List Value) : vs.reverse.toArray.push v = (v :: vs).reverse.toArray := by simp
def PostR (P : Shared → Prop) (r : Result) (s' : Shared) : Prop := r = .ok .next ∧ P s'
theorem run_loop {prog : Program} {w : World} {A : Around} {R : Result → Shared → Prop} {s : Shared} {target : PySem.Expr} {itv : Value} {body orelse : List Stmt} {env : Env} {hb : Heap} {L' it le : Addr} {o2 o1 : Obj} {news : List (Addr × Obj)} {fin : Option (Int × List Tri)} {q : Int} {tq : Tok} {d : Drawn} {os : OsState}
    (turn : ∀ n s, LoopI hb L' it le o2 o1 news fin q tq d os n s → ∀ (K : Flow → Shared → Prop) (X : Value → Shared → Prop), (∀ s', Back n (LoopI hb L' it le o2 o1 news fin q tq d os) s' → K .next s') → (∀ s', PostI hb L' le o2 o1 news fin q tq d os s' → K .brk s') →
      wpAny (model prog w) A (pyNext itv) (fun r s₁ => match r with
      | none => False
      | some v => wpAny (model prog w) A (letOwnedTupleGo target itv v) (fun _ s₁' => wpAny (model prog w) A (assign target env v) (fun _ s₂ => wpAny (model prog w) A (execs body env) K X s₂) X s₁') X s₁) X s)
    (n : Nat) (h : LoopI hb L' it le o2 o1 news fin q tq d os n s) (post : ∀ s', PostI hb L' le o2 o1 news fin q tq d os s' → R (.ok .next) s') : codeAny (model prog w) A (.forLoop target itv body orelse env) R s :=
  codeAny_mono (my_for (R := PostR (PostI hb L' le o2 o1 news fin q tq d os)) _ (fun n s hI => wpAny_mono (turn n s hI _ _ (fun _ h => h) (fun _ h => And.intro rfl h)) (fun r s₁ h => by cases r with
    | none => exact h.elim
    | some v => exact h) fun _ _ h => h) n h) fun r s' hr => hr.1 ▸ post s' hr.2
theorem loopD_mid {n : Nat} {x y z k : Int} {es : List Tri} {f : Option (Int × List Tri)} (h : loopD (n + 1) x y z k es = f) (hm : mid (absd x y) (absd y z) (absd z x) = true) : loopD n (absd x y) (absd y z) (absd z x) (k + 1) es = f := by
  unfold loopD at h; rw [if_pos hm] at h; exact h
theorem loopD_two {n : Nat} {x y z k : Int} {es : List Tri} {f : Option (Int × List Tri)} (h : loopD (n + 1) x y z k es = f) (hm : mid (absd x y) (absd y z) (absd z x) = false) (hl : es.length = 2) : f = some (k, (absd x y, absd y z, absd z x) :: es) := by
  unfold loopD at h; rw [if_neg (by rw [hm]; decide), if_pos hl] at h; exact h.symm
theorem loopD_more {n : Nat} {x y z k : Int} {es : List Tri} {f : Option (Int × List Tri)} (h : loopD (n + 1) x y z k es = f) (hm : mid (absd x y) (absd y z) (absd z x) = false) (hl : es.length ≠ 2) : loopD n (absd x y) (absd y z) (absd z x) k ((absd x y, absd y z, absd z x) :: es) = f := by
  unfold loopD at h; rw [if_neg (by rw [hm]; decide), if_neg hl] at h; exact h
theorem ent_is (a b c : Int) (t1 t2 t3 : Tok) : W.listOf #[.int (Flt.toInt Float64.truncOf (Float64.add (Float64.mul (Float64.ofInt 6) (hls a b c).1) 4602678819172646912)) t1, .float (Float64.mul (Float64.ofInt 64) (hls a b c).2.1) t2, .float (hls a b c).2.2 t3] 0 = entObj (a, b, c) t1 t2 t3 := by
  rw [hls_light, hls_share]; rfl
theorem news_order10 {h₀ h : Heap} {L : Addr} {a b c d t i e f g k : Addr × Obj} {r : List (Addr × Obj)} (N : News h₀ L h (a :: b :: c :: d :: t :: i :: e :: f :: g :: k :: r)) : News h₀ L h (i :: t :: e :: d :: g :: k :: r) := fun q hq => N q (by
  simp only [List.mem_cons] at hq ⊢
  rcases hq with hq | hq | hq | hq | hq | hq | hq <;> simp [hq])
theorem news_order11 {h₀ h : Heap} {L : Addr} {n a b c d t i e f g k : Addr × Obj} {r : List (Addr × Obj)} (N : News h₀ L h (n :: a :: b :: c :: d :: t :: i :: e :: f :: g :: k :: r)) : News h₀ L h (i :: t :: e :: d :: g :: k :: n :: r) := fun q hq => N q (by
  simp only [List.mem_cons] at hq ⊢
  rcases hq with hq | hq | hq | hq | hq | hq | hq | hq <;> simp [hq])
theorem news_order12 {h₀ h : Heap} {L : Addr} {n a b c d t i e f g k : Addr × Obj} {r : List (Addr × Obj)} (N : News h₀ L h (n :: a :: b :: c :: d :: t :: i :: e :: f :: g :: k :: r)) : News h₀ L h (t :: e :: d :: g :: k :: n :: r) := fun q hq => N q (by
  simp only [List.mem_cons] at hq ⊢
  rcases hq with hq | hq | hq | hq | hq | hq | hq <;> simp [hq])
theorem ne_cons {d a : Addr} {o : Obj} {l : List (Addr × Obj)} (h1 : a ≠ d) (h : ∀ q ∈ l, q.1 ≠ d) : ∀ q ∈ (a, o) :: l, q.1 ≠ d := List.forall_mem_cons.mpr ⟨h1, h⟩
theorem LoopI.elim {hb : Heap} {L' it le : Addr} {o2 o1 : Obj} {news : List (Addr × Obj)} {fin : Option (Int × List Tri)} {q : Int} {tq : Tok} {d : Drawn} {os : OsState} {n : Nat} {s : Shared} {P : Shared → Prop} (I : LoopI hb L' it le o2 o1 news fin q tq d os n s)
    (k : ∀ (h : Heap) (g : Array GenState) (tk : Nat) (m : Str → Option Value) (x y z : Int) (tx ty tz th tl ts tg : Tok) (lp : Addr) (np ne : Nat) (k : Int) (es : List Tri) (vs : List Value) (inn : List (Addr × Obj)) (ps : Array Value),
      In12 x → In12 y → In12 z → EndsR es vs inn → es.length < 3 → (ts == 0) = false → TriplesOk ps.toList → AllBare g →
      Fr hb L' h (fun y' => if y' = Str.ofString "parts" then some (.ref lp) else if y' = Str.ofString "hue" then some (.float (hls x y z).1 th) else if y' = Str.ofString "light" then some (.float (hls x y z).2.1 tl) else if y' = Str.ofString "share" then some (.float (hls x y z).2.2 ts) else if y' = Str.ofString "going" then some (.int k tg) else if y' = Str.ofString "ends" then some (.ref le) else if y' = Str.ofString "quotients" then some (.int q tq) else m y') →
      News hb L' h ((it, itO (20 - n) n) :: (147, tableObj ps) :: (le, W.listOf vs.reverse.toArray ne) :: (lp, W.listOf #[.int x tx, .int y ty, .int z tz] np) :: (L' + 1 + 1, o2) :: (L' + 1, o1) :: (inn ++ news)) →
      L' + 1 + 1 < lp → lp ≠ le → lp ≠ it → (∀ q ∈ inn ++ news, q.1 ≠ le) → (∀ q ∈ inn ++ news, q.1 ≠ it) → (∀ q ∈ inn ++ news, q.1 ≠ 147) → (∀ q ∈ inn ++ news, q.1 ≠ L' + 1 + 1) → (∀ q ∈ inn ++ news, q.1 ≠ L' + 1) →
      loopD n x y z k es = fin → P ⟨h, g, d, tk, os⟩) : P s := by
  obtain ⟨h7, g7, tk7, m7, x, y, z, tx, ty, tz, th, tl, ts, tg, lp, np, ne, k', es, vs, inn, ps, rfl, hx, hy, hz, hE, hlen, hts, hT, hbare, F7, q1, q2, q3, q4, q5, q6, q7, N7, w1, w2, w3, w4, w5, w6, w7, w8, hrun⟩ := I
  exact k h7 g7 tk7 m7 x y z tx ty tz th tl ts tg lp np ne k' es vs inn ps hx hy hz hE hlen hts hT hbare (fr7 F7 q1 q2 q3 q4 q5 q6 q7) N7 w1 w2 w3 w4 w5 w6 w7 w8 hrun
set_option maxHeartbeats 0 in
theorem run_ct (w : World) (number : Int) (t : Tok) :
    Ct1 w 20 229 [.int number t] (fun r => r = .bool true) := by
  unfold Ct1
  k_fill
  intro p loose mean mg mb dp un gd cn cs ad ccd cl outer A₀ base h₀ L m ps news s Q E B F X N hT hn47 T hk hbare hd hu hret
  refine wpAny_call ?_
  k_dflt (refine' code_defC ?k1 ?k2 ?k3 ?k4 ?k5 ?kA ?kF ?kK ?k6 ?k7 ?k8 ?k9 ?kB ?kD ?_ ?c2 ?c3 ?c4; (case kA => exact rfl); (case kF => exact rfl); (case kK => assumption); (case k1 => k_asm); (case k2 => k_asm); (case k3 => k_asm); (case k4 => k_asm); (case k5 => k_asm); (case k6 => k_is); (case k7 => k_is); (case k8 => ktr_room); (case k9 => exact BindsTo.of_eq rfl); (case kB => exact rfl); (case kD => decide +kernel); (case c2 => exact rfl); (case c3 => exact rfl); (case c4 => exact rfl); k_whole; intro g' L' h' tk' cells' FG' F' N' Y' B' X' T' l1; (try k_lt l1); k_cells Y'; (try simp only [List.cons_append, List.nil_append] at N'); (try dsimp only); (try k_lift B'); (try k_fold))
  rename_i oc1 oc2 dc1 dc2
  have dn1 : oc1.data = .cell none := dc1
  have dn2 : oc2.data = .cell none := dc2
  clear dc1 dc2
  have c1 : AllLt (L' + 1) news := allLt_mono (Nat.le_succ _) l1.2
  have c2 : AllLt (L' + 1 + 1) news := allLt_mono (Nat.le_succ _) c1
  have none_booked2 : NoneBooked g' := ⟨_, ⟨_, _, _, X' 2 _ (by k_is), rfl, by simp [StrKeys], fun _ => rfl⟩, rfl⟩
  k_steps
  refine Stop.out ?_
  rename Fr _ _ _ _ => F1
  rename News _ _ _ _ => N1
  have hx := mod12 number
  have hy := mod12 (number.fdiv 13)
  have hz := mod12 (number.fdiv 169)
  generalize number.fmod 13 = x at hx F1 N1 ⊢
  generalize (number.fdiv 13).fmod 13 = y at hy F1 N1 ⊢
  generalize (number.fdiv 169).fmod 13 = z at hz F1 N1 ⊢
  refine' ct0_use (euclid_ct w x y z _ _ _ hx hy hz _ _) ?k1 ?k2 ?k3 ?k4 ?k5 ?k6 ?k7 ?k8 ?k9 ?_; (case k1 => k_asm); (case k2 => k_asm); (case k3 => k_asm); (case k4 => k_asm); (case k5 => k_asm); (case k6 => first | exact rfl | assumption); (case k7 => ktr_room); (case k8 => ktr_units); (case k9 => (intro p9 h9; rw [List.mem_singleton.mp h9]; k_mem))
  intro r2 tl2 h2 tk2 F2 N2 o2 x2
  obtain ⟨q2, t2, u2, rfl, rfl⟩ := x2
  have o3 := fun q hq => o2 _ (.head _) q hq
  clear o2
  k_lt o3
  try dsimp only
  try simp only [List.cons_append, List.nil_append] at N2
  k_steps
  refine Stop.out ?_
  refine' ct0_use (told_ct w x y z _ _ _ hx hy hz _ _) ?k1 ?k2 ?k3 ?k4 ?k5 ?k6 ?k7 ?k8 ?k9 ?_; (case k1 => k_asm); (case k2 => k_asm); (case k3 => k_asm); (case k4 => k_asm); (case k5 => k_asm); (case k6 => first | exact rfl | assumption); (case k7 => ktr_room); (case k8 => ktr_units); (case k9 => (intro p9 h9; rw [List.mem_singleton.mp h9]; k_mem))
  intro r4 tl4 h4 tk4 F4 N4 o4 x4
  obtain ⟨q4, ta4, tb4, tc4, rfl, rfl, htc4⟩ := x4
  have o5 := fun q hq => o4 _ (.head _) q hq
  clear o4
  k_lt o5
  try dsimp only
  try simp only [List.cons_append, List.nil_append] at N4
  k_steps
  refine Stop.out ?_
  refine wpAny_For ?_
  k_steps
  refine wpAny_pyIter_range (by assumption) (by decide) ?_
  rename Fr _ _ _ _ => F5
  rename News _ _ _ _ => N5
  have F6 := F5.push (itO 0 20)
  have N6 := N5.push F5 (itO 0 20)
  have l6 := fun (q : Addr × Obj) hq => Heap.lt_size (N5 q hq).1
  clear N5 F5
  k_lt l6
  obtain ⟨e3, e2, e1, hfin, hd12, hz0, hnz⟩ := fin_of hx hy hz
  have N7 := news_order8 N6
  refine run_loop (news := news) (fin := some ((eucOf x y z).1, [e3, e2, e1])) (d := s.drawn) (os := s.os) ?turn 20 ⟨_, _, _, _, x, y, z, _, _, _, _, _, _, _, _, _, _, 0, [], [], [], ps, rfl, hx, hy, hz, trivial, by decide, htc4, hT, hbare, F6, rfl, rfl, rfl, rfl, rfl, rfl, rfl, N7, ltN (by omega), (by k_ne), (by k_ne), allLt_ne (allLt_mono (Nat.le_of_lt (ltN (by omega))) c2), allLt_ne (allLt_mono (Nat.le_of_lt (ltN (by omega))) c2), hn47, allLt_ne c2, allLt_ne c1, hfin⟩ ?post
  case turn =>
    clear N7 N6 F6
    intro n st hI K X hK hB
    refine LoopI.elim hI ?_
    clear hI
    intro h7 g7 tk7 m7 x y z tx ty tz th tl ts tg lp np ne k es vs inn ps hx hy hz hE hlen hts hT hbare F7 N7 w1 w2 w3 w4 w5 w6 w7 w8 hrun
    replace w1 := ltN w1
    replace w2 := neN w2
    replace w3 := neN w3
    cases n with
    | zero => cases hrun
    | succ n =>
      refine wpAny_pyNext_range_item (N7 _ (.head _)).1 (by omega) ?_
      intro h8 hit8 hsb8
      have F8 := grow_fr F7 N7 fun b o hb e => (hsb8.2 b hb).trans e
      have N8 := news_swap (grow_news N7 (ne5 (neN (by omega)) (neN (by omega)) w3 (neN (by omega)) (neN (by omega)) w5) (fun b o hb e => (hsb8.2 b hb).trans e) hit8)
      have e8 : (20 - ((n + 1 : Nat) : Int) + 1) = 20 - (n : Int) := by omega
      have e9 : (((n + 1 : Nat) : Int) - 1) = (n : Int) := by omega
      rw [e8, e9] at N8
      clear N7 F7 hit8 hsb8
      dsimp only
      refine wpAny_pure ?_
      k_steps
      refine Stop.out ?_
      refine' ct1_use (apart_ct w x y z _ _ _ hx hy hz) ?k1 ?k2 ?k3 ?k4 hT ?k9 ?k5 ?k6 hbare ?k7 ?k8 ?_; (case k4 => k_asm); (case k1 => k_asm); (case k2 => k_asm); (case k3 => k_asm); (case k5 => k_asm); (case k6 => first | exact rfl | assumption); (case k7 => ktr_room); (case k8 => ktr_units); (case k9 => (refine' ne5 ?q1 ?q2 ?q3 ?q4 ?q5 w6 <;> exact neN (by omega)))
      intro r9 ps9 h9 tk9 g9 F9 N9 hT9 hbare9 x9
      have y9 : ∃ t', r9 = .int (absd x y) t' := x9
      obtain ⟨t9, rfl⟩ := y9
      clear x9
      clear hT hbare
      dsimp only
      k_steps
      refine Stop.out ?_
      refine' ct1_use (apart_ct w y z x _ _ _ hy hz hx) ?k1 ?k2 ?k3 ?k4 hT9 ?k9 ?k5 ?k6 hbare9 ?k7 ?k8 ?_; (case k4 => k_asm); (case k1 => k_asm); (case k2 => k_asm); (case k3 => k_asm); (case k5 => k_asm); (case k6 => first | exact rfl | assumption); (case k7 => ktr_room); (case k8 => ktr_units); (case k9 => (refine' ne5 ?q1 ?q2 ?q3 ?q4 ?q5 w6 <;> exact neN (by omega)))
      intro r10 ps10 h10 tk10 g10 F10 N10 hT10 hbare10 x10
      have y10 : ∃ t', r10 = .int (absd y z) t' := x10
      obtain ⟨t10, rfl⟩ := y10
      clear x10
      clear hT9 hbare9
      dsimp only
      k_steps
      refine Stop.out ?_
      refine' ct1_use (apart_ct w z x y _ _ _ hz hx hy) ?k1 ?k2 ?k3 ?k4 hT10 ?k9 ?k5 ?k6 hbare10 ?k7 ?k8 ?_; (case k4 => k_asm); (case k1 => k_asm); (case k2 => k_asm); (case k3 => k_asm); (case k5 => k_asm); (case k6 => first | exact rfl | assumption); (case k7 => ktr_room); (case k8 => ktr_units); (case k9 => (refine' ne5 ?q1 ?q2 ?q3 ?q4 ?q5 w6 <;> exact neN (by omega)))
      intro r11 ps11 h11 tk11 g11 F11 N11 hT11 hbare11 x11
      have y11 : ∃ t', r11 = .int (absd z x) t' := x11
      obtain ⟨t11, rfl⟩ := y11
      clear x11
      clear hT10 hbare10
      dsimp only
      change wpAny _ _ (spliced _) _ _ _
      k_steps
      · exact (no_neg (x := x) (y := y) (z := z) (by assumption) (by assumption)).elim
      · exact (no_nan2 hx hy hz (by assumption)).elim
      · exact (no_inf2 hx hy hz (by assumption)).elim
      · exact (no_big hx hy hz (by assumption) (by assumption) (by assumption)).elim
      · exact (no_nan3 hx hy hz (by assumption) (by assumption) (by assumption)).elim
      · exact (no_inf3 hx hy hz (by assumption) (by assumption) (by assumption)).elim
      refine Stop.out ?_
      rename Int => sp
      have hsp : sp = max3 x y z - min3 x y z := spr_of (by assumption) (by assumption)
      subst hsp
      refine' ct0_use (foretold_ct w x y z _ _ _ _ _ hx hy hz (spr12 hx hy hz) _ _) ?k1 ?k2 ?k3 ?k4 ?k5 ?k6 ?k7 ?k8 ?k9 ?_; (case k1 => k_asm); (case k2 => k_asm); (case k3 => k_asm); (case k4 => k_asm); (case k5 => k_asm); (case k6 => first | exact rfl | assumption); (case k7 => ktr_room); (case k8 => ktr_units); (case k9 => (intro p9 h9; rw [List.mem_singleton.mp h9]; k_mem))
      intro r12 tl12 h12 tk12 F12 N12 o12 x12
      obtain ⟨q12, ta12, tb12, tc12, n12, rfl, rfl⟩ := x12
      have o13 := fun q hq => o12 _ (.head _) q hq
      clear o12
      k_lt o13
      try dsimp only
      try simp only [List.cons_append, List.nil_append] at N12
      k_steps
      refine Stop.out ?_
      rename News _ _ _ _ => N14
      refine ne_three (News.isList N14 (by k_mem)) (News.isList N14 (by k_mem)) (by ktr_units) ?_ ?_ ?_ ?_
      · exact (gives_fi (by rw [hls_light]; exact (pair_facts hx hy hz).1)).at _ _
      · exact (gives_ii (by rw [q2_is]; exact (pair_facts hx hy hz).2.2.2.1)).at _ _
      · exact (gives_ii (hue_facts hx hy hz).2.2.1).at _ _
      k_steps
      refine Stop.out ?_
      refine' ct0_use (told_ct w (absd x y) (absd y z) (absd z x) _ _ _ (absd12 hx hy) (absd12 hy hz) (absd12 hz hx) _ _) ?k1 ?k2 ?k3 ?k4 ?k5 ?k6 ?k7 ?k8 ?k9 ?_; (case k1 => k_asm); (case k2 => k_asm); (case k3 => k_asm); (case k4 => k_asm); (case k5 => k_asm); (case k6 => first | exact rfl | assumption); (case k7 => ktr_room); (case k8 => ktr_units); (case k9 => (intro p9 h9; rw [List.mem_singleton.mp h9]; k_mem))
      intro r15 tl15 h15 tk15 F15 N15 o15 x15
      obtain ⟨q15, ta15, tb15, tc15, rfl, rfl, htc15⟩ := x15
      have o16 := fun q hq => o15 _ (.head _) q hq
      clear o15
      k_lt o16
      try dsimp only
      try simp only [List.cons_append, List.nil_append] at N15
      k_steps
      · refine Stop.out ?_
        rename News _ _ _ _ => N20
        refine kun_lenL (k := (es.length : Int)) (News.isList N20 (by k_mem)) (by simp [ends_len hE]) (by omega) ?_
        dsimp only
        k_steps
        · exact absurd (show (es.length : Int) = 3 by assumption) (by omega)
        · refine hK _ ?_
          exact ⟨n, Nat.lt_succ_self n, _, _, _, _, absd x y, absd y z, absd z x, _, _, _, _, _, _, _, _, _, _, k + 1, es, vs, inn, ps11, rfl, absd12 hx hy, absd12 hy hz, absd12 hz hx, hE, hlen, htc15, hT11, hbare11, by assumption, rfl, rfl, rfl, rfl, rfl, rfl, rfl, news_order10 (by assumption), ltN (by omega), neN (by omega), neN (by omega), w4, w5, w6, w7, w8, loopD_mid hrun (mid_yes (absd12 hx hy) (absd12 hy hz) (absd12 hz hx) (by assumption) (by assumption))⟩
      · exact (no_nan6 (absd12 hx hy) (absd12 hy hz) (absd12 hz hx) (by assumption)).elim
      · exact (no_inf6 (absd12 hx hy) (absd12 hy hz) (absd12 hz hx) (by assumption)).elim
      · refine Stop.out ?_
        rename Fr _ _ _ _ => F30
        rename News _ _ _ _ => N30
        refine append_K F30 N30 (by k_upd) ?_ (by rw [sizeLine_eq]; simp [ends_len hE]; omega)
        intro h31 F31 N31
        rw [push_rev] at N31
        clear F30 N30
        k_steps
        refine Stop.out ?_
        rename News _ _ _ _ => N32
        refine kun_lenL (k := (es.length : Int) + 1) (News.isList N32 (by k_mem)) (by simp [ends_len hE]) (by omega) ?_
        dsimp only
        k_steps
        · refine hB _ ?_
          have hl2 : es.length = 2 := by have : (es.length : Int) + 1 = 3 := by assumption
                                         omega
          exact ⟨_, _, _, _, absd x y, absd y z, absd z x, _, _, _, _, _, _, _, k, es, _ :: vs, _ :: inn, ps11, rfl, ⟨⟨_, _, _, rfl, ent_is _ _ _ _ _ _, rfl, htc15⟩, hE⟩, hl2, hT11, hbare11, by assumption, rfl, rfl, rfl, rfl, news_order12 (by assumption), ltN (by omega), ne_cons (neN (by omega)) w7, loopD_two hrun (mid_no2 (absd12 hx hy) (absd12 hy hz) (absd12 hz hx) (by assumption)) hl2⟩
        · refine hK _ ?_
          have hl2 : ¬ es.length = 2 := by have : ¬ (es.length : Int) + 1 = 3 := by assumption
                                           omega
          exact ⟨n, Nat.lt_succ_self n, _, _, _, _, absd x y, absd y z, absd z x, _, _, _, _, _, _, _, _, _, _, k, _ :: es, _ :: vs, _ :: inn, ps11, rfl, absd12 hx hy, absd12 hy hz, absd12 hz hx, ⟨⟨_, _, _, rfl, ent_is _ _ _ _ _ _, rfl, htc15⟩, hE⟩, (by rw [List.length_cons]; omega), htc15, hT11, hbare11, by assumption, rfl, rfl, rfl, rfl, rfl, rfl, rfl, news_order11 (by assumption), ltN (by omega), neN (by omega), neN (by omega), ne_cons (neN (by omega)) w4, ne_cons (neN (by omega)) w5, ne_cons (neN (by omega)) w6, ne_cons (neN (by omega)) w7, ne_cons (neN (by omega)) w8, loopD_more hrun (mid_no2 (absd12 hx hy) (absd12 hy hz) (absd12 hz hx) (by assumption)) hl2⟩
      · exact (no_nan6 (absd12 hx hy) (absd12 hy hz) (absd12 hz hx) (by assumption)).elim
      · exact (no_inf6 (absd12 hx hy) (absd12 hy hz) (absd12 hz hx) (by assumption)).elim
      · refine Stop.out ?_
        rename Fr _ _ _ _ => F30
        rename News _ _ _ _ => N30
        refine append_K F30 N30 (by k_upd) ?_ (by rw [sizeLine_eq]; simp [ends_len hE]; omega)
        intro h31 F31 N31
        rw [push_rev] at N31
        clear F30 N30
        k_steps
        refine Stop.out ?_
        rename News _ _ _ _ => N32
        refine kun_lenL (k := (es.length : Int) + 1) (News.isList N32 (by k_mem)) (by simp [ends_len hE]) (by omega) ?_
        dsimp only
        k_steps
        · refine hB _ ?_
          have hl2 : es.length = 2 := by have : (es.length : Int) + 1 = 3 := by assumption
                                         omega
          exact ⟨_, _, _, _, absd x y, absd y z, absd z x, _, _, _, _, _, _, _, k, es, _ :: vs, _ :: inn, ps11, rfl, ⟨⟨_, _, _, rfl, ent_is _ _ _ _ _ _, rfl, htc15⟩, hE⟩, hl2, hT11, hbare11, by assumption, rfl, rfl, rfl, rfl, news_order12 (by assumption), ltN (by omega), ne_cons (neN (by omega)) w7, loopD_two hrun (mid_no1 (absd12 hx hy) (absd12 hy hz) (absd12 hz hx) (by assumption)) hl2⟩
        · refine hK _ ?_
          have hl2 : ¬ es.length = 2 := by have : ¬ (es.length : Int) + 1 = 3 := by assumption
                                           omega
          exact ⟨n, Nat.lt_succ_self n, _, _, _, _, absd x y, absd y z, absd z x, _, _, _, _, _, _, _, _, _, _, k, _ :: es, _ :: vs, _ :: inn, ps11, rfl, absd12 hx hy, absd12 hy hz, absd12 hz hx, ⟨⟨_, _, _, rfl, ent_is _ _ _ _ _ _, rfl, htc15⟩, hE⟩, (by rw [List.length_cons]; omega), htc15, hT11, hbare11, by assumption, rfl, rfl, rfl, rfl, rfl, rfl, rfl, news_order11 (by assumption), ltN (by omega), neN (by omega), neN (by omega), ne_cons (neN (by omega)) w4, ne_cons (neN (by omega)) w5, ne_cons (neN (by omega)) w6, ne_cons (neN (by omega)) w7, ne_cons (neN (by omega)) w8, loopD_more hrun (mid_no1 (absd12 hx hy) (absd12 hy hz) (absd12 hz hx) (by assumption)) hl2⟩
  case post =>
    intro s' hP
    obtain ⟨h40, g40, tk40, m40, x4, y4, z4, tx4, ty4, tz4, tg4, lp, np, ne, k, es, vs, inn, ps40, rfl, hE, hlen, hT40, hb40, F40, p1, p2, p3, p4, N40, w1, w7, hfe⟩ := hP
    obtain ⟨hk1, hk2⟩ := Prod.mk.inj (Option.some.inj hfe)
    obtain ⟨hk3, hk4⟩ := List.cons.inj hk2
    subst hk4
    obtain ⟨q3, q2', q1, t11', t12, t13, t21, t22, t23, t31, t32, t33, rfl, rfl, hn⟩ := ends_three hE
    have F41 := fr4 F40 p1 p2 p3 p4 (by decide) (by decide) (by decide)
    dsimp only [List.reverse_cons, List.reverse_nil, List.nil_append, List.cons_append] at N40
    have N41 := newsSub N40 (l' := (147, tableObj ps40) :: (_, W.listOf #[.ref q1, .ref q2', .ref q3] ne) :: (lp, W.listOf #[.int x4 tx4, .int y4 ty4, .int z4 tz4] np) :: (L' + 1 + 1, _) :: (L' + 1, _) :: (q3, entObj (x4, y4, z4) t11' t12 t13) :: (q2', entObj e2 t21 t22 t23) :: (q1, entObj e1 t31 t32 t33) :: news) (fun _ h => h)
    have wn3 := neN (w7 _ (.head _))
    have wn2 := neN (w7 _ (.tail _ (.head _)))
    have wn1 := neN (w7 _ (.tail _ (.tail _ (.head _))))
    have wn0 : ∀ q ∈ news, q.1 ≠ L' + 1 + 1 := allLt_ne c2
    dsimp only at wn1 wn2 wn3
    replace w1 := ltN w1
    clear F40 N40 hE w7 N6 F6 N7
    dsimp only
    k_steps
    · exact (by omega : False).elim
    · refine Stop.out ?_
      rename Fr _ _ _ _ => F50
      rename News _ _ _ _ => N50
      have hd0 : (eucOf x y z).2 = 0 := by assumption
      obtain ⟨z1, z2, z3⟩ := hz0 hd0
      subst z1 z2
      have z4' : x4 = 0 ∧ y4 = 0 ∧ z4 = 0 := by
        have := hk3.symm.trans z3
        simpa using this
      obtain ⟨rfl, rfl, rfl⟩ := z4'
      refine PySem.W.KMa.mul F50 N50 (News.isList N50 (by k_mem)) (by decide) (by decide) (Nat.le_of_ble_eq_true rfl) rfl ?_
      intro D h51 F51 N51 l51
      k_lt l51
      dsimp only
      k_steps
      refine Stop.out ?_
      rename News _ _ _ _ => N52
      rename Fr _ _ _ _ => F52
      have nb := booked_keeps none_booked2 F52.keep
      obtain ⟨b1, b2, b3, b4, b5, b6⟩ := hn
      refine eq_three (News.isList N52 (by k_mem)) (News.isList N52 (by k_mem)) (by ktr_units) (neN (by omega)) (neN (by omega)) (neN (by omega)) ?r1 ?r2 ?r3 ?_
      case r1 => exact rc_three (News.isList N52 (by k_mem)) (News.isList N52 (by k_mem)) (by ktr_units) ((gives_ii (eq_of_beq zero_ok.1)).at _ _) (eqAt_ff zero_ok.2.1 (by rw [b5]; rfl) nb) (eqAt_ff zero_ok.2.2 (by rw [b6]; rfl) nb)
      case r2 => exact rc_three (News.isList N52 (by k_mem)) (News.isList N52 (by k_mem)) (by ktr_units) ((gives_ii (eq_of_beq zero_ok.1)).at _ _) (eqAt_ff zero_ok.2.1 (by rw [b3]; rfl) nb) (eqAt_ff zero_ok.2.2 (by rw [b4]; rfl) nb)
      case r3 => exact rc_three (News.isList N52 (by k_mem)) (News.isList N52 (by k_mem)) (by ktr_units) ((gives_ii (eq_of_beq zero_ok.1)).at _ _) (eqAt_ff zero_ok.2.1 (by rw [b1]; rfl) nb) (eqAt_ff zero_ok.2.2 (by rw [b2]; rfl) nb)
      exact leaveK_ F52 N52 fun FF NN => hret _ ps40 _ _ _ FF (fun q hq => by
        rcases List.mem_cons.mp hq with rfl | hq
        · exact NN _ (by k_mem)
        · exact NN _ (by simp only [List.mem_cons]; simp [hq])) hT40 hb40 rfl
    · rename Fr _ _ _ _ => F50
      rename News _ _ _ _ => N50
      have hd0 : (eucOf x y z).2 ≠ 0 := by assumption
      obtain ⟨z1, z2, z3⟩ := hnz hd0
      obtain ⟨j, zj, zp1, zp2⟩ := zpos (hk3.symm.trans z3) hd0
      refine index3 (N50 _ (.tail _ (.tail _ (.head _)))).1 j zp1 zp2 ?_
      dsimp only
      k_steps
      refine Stop.out ?_
      rename Fr _ _ _ _ => F54
      refine ListComp_Tup F54 (by with_unfolding_all rfl) (by decide) (by rfl) (by decide) (by rfl) ?_
      k_steps
      rename Fr _ _ _ _ => F55
      rename News _ _ _ _ => N55
      refine CompSrcT.ledger (by rfl) F55 N55 (by k_mem) rfl rfl (by first | size_fits | exact Nat.le_of_ble_eq_true rfl) ?_
      intro g
      lcg_lit
      k_steps
      refine Stop.out ?_
      rename Fr _ _ _ _ => F61
      rename News _ _ _ _ => N61
      rename (_ ∧ _ ∧ _) ∧ _ => o61
      refine compEnd_take F61 N61 o61 (neN (by omega)) (neN (by omega)) (neN (by omega)) ⟨_, by k_mem, rfl, _, rfl⟩ ?_
      clear F61 N61 o61
      k_steps
      refine Stop.out ?_
      rename Fr _ _ _ _ => F61
      rename News _ _ _ _ => N61
      rename (_ ∧ _ ∧ _) ∧ _ => o61
      refine compEnd_take F61 N61 o61 (neN (by omega)) (neN (by omega)) (neN (by omega)) ⟨_, by k_mem, rfl, _, rfl⟩ ?_
      clear F61 N61 o61
      k_steps
      refine Stop.out ?_
      rename Fr _ _ _ _ => F61
      rename News _ _ _ _ => N61
      rename (_ ∧ _ ∧ _) ∧ _ => o61
      refine compEnd_take F61 N61 o61 (neN (by omega)) (neN (by omega)) (neN (by omega)) ⟨_, by k_mem, rfl, _, rfl⟩ ?_
      clear F61 N61 o61
      k_steps
      refine Stop.out ?_
      rename News _ _ _ _ => N52
      rename Fr _ _ _ _ => F52
      have nb := booked_keeps none_booked2 F52.keep
      obtain ⟨b1, b2, b3, b4, b5, b6⟩ := hn
      obtain ⟨⟨u1, u2', u3⟩, ⟨v1, v2, v3⟩, ⟨w1', w2', w3'⟩⟩ := tri_all hd12 hd0 zj z1 z2 z3
      have hk3' := hk3
      subst hk3'
      refine eq_three (News.isList N52 (by k_mem)) (News.isList N52 (by k_mem)) (by ktr_units) (neN (by omega)) (neN (by omega)) (neN (by omega)) ?r1 ?r2 ?r3 ?_
      case r1 => exact rc_three (News.isList N52 (by k_mem)) (News.isList N52 (by k_mem)) (by ktr_units) ((gives_ii u1).at _ _) ((gives_fi u2').at _ _) (eqAt_ff u3 (by rw [b6]; rfl) nb)
      case r2 => exact rc_three (News.isList N52 (by k_mem)) (News.isList N52 (by k_mem)) (by ktr_units) ((gives_ii v1).at _ _) ((gives_fi v2).at _ _) (eqAt_ff v3 (by rw [b4]; rfl) nb)
      case r3 => exact rc_three (News.isList N52 (by k_mem)) (News.isList N52 (by k_mem)) (by ktr_units) ((gives_ii w1').at _ _) ((gives_fi w2').at _ _) (eqAt_ff w3' (by rw [b2]; rfl) nb)
      exact leaveK_ F52 N52 fun FF NN => hret _ ps40 _ _ _ FF (fun q hq => by
        rcases List.mem_cons.mp hq with rfl | hq
        · exact NN _ (by k_mem)
        · exact NN _ (by simp only [List.mem_cons]; simp [hq])) hT40 hb40 rfl
end Mine
end

-- FinTop
section
theorem Mine.fresh_FinTop : True := by (w_top off; exact True.intro)
set_option maxHeartbeats 0
namespace Mine
/-- the text's rows without those that set __name__, written out -/
noncomputable def kept : { b : List Stmt // b = [0, 2, 4, 5, 6, 7, 9, 11, 12, 13, 14, 15, 16].filterMap (PySem.Challenge.rw_wu0076_01.row.prog.main.body[·]?) } := ⟨[_, _, _, _, _, _, _, _, _, _, _, _, _], by rfl⟩
noncomputable def view : Program := { PySem.Challenge.rw_wu0076_01.row.prog with main := { PySem.Challenge.rw_wu0076_01.row.prog.main with body := kept.1 } }
noncomputable def addrs : List Addr := [2,3,15,17,18,20,21,22,24,25,27,28,36,38,39,41,42,43,45,46,48,49,50,52,53,55,56,57,59,60,62,63,64,66,67,69,70,71,73,74,76,77,78,80,81,83,84,85,87,88,90,91,92,94,95,97,98,99,100,101,102,103,106,109,114,115,116,118,119,121,122,123,125,126,128,129,130,131,133,134,136,137,138,139,141,142,144,145,146,148,149,151,152,153,155,156,158,159,160,161,163,164,166,167,168,170,171,173,174,175,176,178,179,181,182,183,184,185,186,187,190,192,193,195,196,197,199,200,202,203,204,206,207,209,210,211,213,214,216,217,218,220,221,223,224,225,228,229,230,232,233,235,236]
theorem addrs_are : ∀ P, addrs = (Mine.hd.heap_1 P).map (·.1) := fun _ => by kernel_rfl
noncomputable def hook : Hook := kmHook Mine.hd.heap_1 addrs addrs_are [147]
noncomputable abbrev seenTop (s : Shared) : Bool := xlAt view [] s && recOk (RowW.records PySem.Challenge.rw_wu0076_01.row.toRowW) s
theorem opens : opening PySem.Challenge.rw_wu0076_01.row.prog = plainProg PySem.Challenge.rw_wu0076_01.row.prog.main.scope.names := by kernel_rfl
theorem topFrom_of {tb : String → Option Builtin} {p : Program} {w : World} {N : Nat} {s₀ s₁ : Shared} (z : (s₀.heap.isNs mainGlobals && s₀.gens.size == 0) = true)
    (r : topRun tb p w s₀.heap.objs.size (s₀.heap.nsMap mainGlobals "__annotations__") N s₀ (topStub p) = some s₁)
    (l : (staticsOk (importedModules p.main.body) s₀.heap s₁.heap && namesBound p s₁.heap && gensDone s₁ && laidKept s₀.heap s₁.heap) = true) : topFrom tb p w N s₀ = some s₁ := by
  unfold topFrom
  rw [z]
  dsimp only
  rw [r, Option.bind_some, l]
/-- the head by one run from the booted interpreter -/
theorem leftO_of {p q : Program} {loose : List Str} {Xt : Shared → Bool} {α : Type} {Yf : Shared → α} {Ya : World → α} {N : Nat} {g0 : Bool} {H₀ : Params → Heap} {gs₀ : Array GenState} {d₀ : Drawn} {k₀ : Nat}
    (open_ : ∀ w : World, (fencedOpening treeTable p w N).map (fun s => (s.heap, s.gens, s.drawn, s.toks)) = some (H₀ w.params, gs₀, d₀, k₀))
    (size : ∀ w : World, ((H₀ w.params).isNs mainGlobals && gs₀.size == 0) = true)
    (run : ∀ (w : World) (os : OsState), (topRun treeTable p w (H₀ w.params).objs.size ((H₀ w.params).nsMap mainGlobals "__annotations__") N ⟨H₀ w.params, gs₀, d₀, k₀, os⟩ (topStub p)).map (fun s =>
      (staticsOk (importedModules p.main.body) (H₀ w.params) s.heap && namesBound p s.heap && gensDone s && laidKept (H₀ w.params) s.heap, openSeen q loose (importedModules p.main.body) Xt g0 s, Yf s)) = some (true, openGood q loose, Ya w)) :
    LeftO p q loose Xt Yf Ya N g0 := fun w => by
  obtain ⟨⟨h, gs, d, k, os⟩, e, e'⟩ := Option.map_eq_some_iff.mp (open_ w)
  obtain ⟨rfl, rfl, rfl, rfl⟩ : h = H₀ w.params ∧ gs = gs₀ ∧ d = d₀ ∧ k = k₀ := by simpa using e'
  obtain ⟨s₁, h1, h2⟩ := Option.map_eq_some_iff.mp (run w os)
  obtain ⟨l1, l2, l3⟩ : _ ∧ _ ∧ _ := by simpa only [Prod.mk.injEq] using h2
  have t := topFrom_of (p := p) (s₀ := ⟨H₀ w.params, gs, d, k, os⟩) (size w) h1 l1
  unfold openEnds
  rw [e, Option.bind_some, t]
  exact congrArg some (Prod.ext l2 l3)
theorem boots (w : World) : ((boot_heap w.params).isNs mainGlobals && (Array.mk ([] : List GenState)).size == 0) = true := by kernel_rfl
/-- the top, run from where the interpreter stands ready: one check -/
theorem top_run (w : World) (os : OsState) : (topRun treeTable PySem.Challenge.rw_wu0076_01.row.prog w (boot_heap w.params).objs.size ((boot_heap w.params).nsMap mainGlobals "__annotations__") 2788 ⟨boot_heap w.params, Array.mk [], boot_drawn, boot_toks, os⟩ (topStub PySem.Challenge.rw_wu0076_01.row.prog)).map (fun s =>
      (staticsOk (importedModules PySem.Challenge.rw_wu0076_01.row.prog.main.body) (boot_heap w.params) s.heap && namesBound PySem.Challenge.rw_wu0076_01.row.prog s.heap && gensDone s && laidKept (boot_heap w.params) s.heap, openSeen view [Str.ofString "_Accumulator"] (importedModules PySem.Challenge.rw_wu0076_01.row.prog.main.body) seenTop true s, hook.obs s)) = some (true, openGood view [Str.ofString "_Accumulator"], hook.val w) := by
  rewrite [PySem.W.Fast.te14082659384304107361, PySem.W.Fast.te4187177175401517315, PySem.W.Fast.te8920871248978507458]
  kernel_rfl
theorem left : LeftO PySem.Challenge.rw_wu0076_01.row.prog view [Str.ofString "_Accumulator"] seenTop hook.obs hook.val 2788 :=
  leftO_of (boot_open (p := PySem.Challenge.rw_wu0076_01.row.prog) (N := 2788) opens rfl (fun _ => rfl)) boots top_run
end Mine
end

-- Fin
section
local macro_rules | `(tactic| walk_at "idle 0") => `(tactic| skip)
local macro_rules | `(tactic| walk_at "idle 1") => `(tactic| skip)
local macro_rules | `(tactic| walk_at "idle 2") => `(tactic| skip)
local macro_rules | `(tactic| walk_at "idle 3") => `(tactic| skip)
local macro_rules | `(tactic| walk_at "idle 4") => `(tactic| skip)
theorem Mine.fresh_Fin : True := by (w_top off; exact True.intro)
namespace Mine
open PySem.W.X
def EndG (s₁ : Shared) (tabs : List (Addr × Addr)) (r : Result) (s' : Shared) : Prop :=
  r = .ok (.ret (.bool true)) ∧ (∀ b o, (ghostOf s₁.heap tabs).get? b = some o → s'.heap.get? b = some o) ∧ s'.os = s₁.os ∧ AllBare s'.gens ∧ GrownAll tabs s'.heap
theorem my_post {M : Model} {A : Around} {cd : Code} {s s₁ : Shared} {cw : ClaimW} {cl : Str → Option Addr} {mean : ExcName → Option Value} {args : List WData} {tabs : List (Addr × Addr)} (hT : TabsAt tabs s₁.heap) (hr : ∀ a x, cw.raises a x = false) (hp : cw.post args (.bool true) args = true)
    (h : codeAny M A cd (EndG s₁ tabs) s) : codeAny M A cd (GoodWG cw cl mean args s₁) s :=
  codeAny_mono h fun r s' ⟨hc, hk, hos, hg, hgr⟩ => by
    have keep : ∀ b o, b ∉ tabs.map (·.2) → s₁.heap.get? b = some o → s'.heap.get? b = some o := fun b o hb e => hk b o (ghost_ne e hb)
    have grown : ∀ b o, b ∈ tabs.map (·.2) → s₁.heap.get? b = some o → isCodeTable s₁.heap b ∧ o = tabObj #[] ∧ ∃ ps, s'.heap.get? b = some (tabObj ps) := fun b o hb e => by
      obtain ⟨q, hq, rfl⟩ := List.mem_map.mp hb
      have e2 := (hT q hq).2
      rw [e] at e2
      exact ⟨((hT q hq).1.tab (hT q hq).2).isCodeTable, Option.some.inj e2, hgr.get q hq⟩
    refine ⟨.inl ⟨_, _, [], hc, hr _, ReadsW.bool true, hp, fun _ => ⟨List.nodup_nil, fun _ hm => (nomatch hm)⟩⟩, ⟨fun b o e => ?_, fun b o e => ?_⟩, hos, hg⟩
    · by_cases hb : b ∈ tabs.map (·.2)
      · obtain ⟨ht, rfl, ps, hP⟩ := grown b o hb e
        exact .inr (.inl ⟨ht, rfl, #[], ps, rfl, by rw [Array.empty_append]; exact hP⟩)
      · exact .inl (keep b o hb e)
    · by_cases hb : b ∈ tabs.map (·.2)
      · obtain ⟨_, _, ps, hP⟩ := grown b o hb e
        exact ⟨_, hP⟩
      · exact ⟨o, keep b o hb e⟩
abbrev lit (D : Addr) (i : Nat) : Obj := { cls := .type "list_iterator", data := .fields #[.ref D, .int i 0] }
theorem start_it {h₀ h : Heap} {L D : Addr} {m : Str → Option Value} {ws : List Value} {n2 n3 : Addr × Obj} (F : Fr h₀ L h m) (N : News h₀ L h [(D, W.listOf ws.toArray 0), n2, n3, (147, tabObj #[])]) (hlt : 147 < D) :
    Fr h₀ L (h.push (lit D 0)) m ∧ News h₀ L (h.push (lit D 0)) [(147, tableObj #[]), (h.objs.size, lit D 0), (D, W.listOf ws.toArray 0)] ∧ h.objs.size ≠ 147 ∧ D ≠ h.objs.size ∧ D ≠ 147 := by
  have N2 := N.push F (lit D 0)
  have l1 : D < h.objs.size := Heap.lt_size (N _ (.head _)).1
  refine ⟨F.push _, fun q hq => N2 q ?_, Nat.ne_of_gt (Nat.lt_trans hlt l1), Nat.ne_of_lt l1, Nat.ne_of_gt hlt⟩
  simp only [List.mem_cons, List.not_mem_nil, or_false] at hq ⊢
  rcases hq with hq | hq | hq
  · exact .inr (.inr (.inr (.inr hq)))
  · exact .inl hq
  · exact .inr (.inl hq)
theorem ints_at {vs : List Value} {ns : List Int} (h : IntsAre vs ns) {i : Nat} (hi : i < vs.length) : ∃ k t, vs[i]? = some (.int k t) := by
  have hi' : i < ns.length := h.length ▸ hi
  obtain ⟨t, ht⟩ := h.get i _ (List.getElem?_eq_getElem hi')
  exact ⟨_, t, ht⟩
def LawI (hb : Heap) (L D it : Addr) (ws : List Value) (d : Drawn) (os : OsState) (n : Nat) (s : Shared) : Prop :=
  ∃ (h : Heap) (g : Array GenState) (tk : Nat) (m : Str → Option Value) (ps : Array Value) (i : Nat) (oi : Obj),
    s = ⟨h, g, d, tk, os⟩ ∧ i + n = ws.length ∧ TriplesOk ps.toList ∧ AllBare g ∧ Fr hb L h m ∧ News hb L h [(147, tableObj ps), (it, oi), (D, W.listOf ws.toArray 0)] ∧ oi.cls = .type "list_iterator" ∧ oi.data = .fields #[.ref D, .int i 0]
def LawP (hb : Heap) (L : Addr) (d : Drawn) (os : OsState) (s : Shared) : Prop :=
  ∃ (h : Heap) (g : Array GenState) (tk : Nat) (m : Str → Option Value) (ps : Array Value), s = ⟨h, g, d, tk, os⟩ ∧ AllBare g ∧ Fr hb L h m ∧ News hb L h [(147, tableObj ps)]
def LawR (P : Shared → Prop) (r : Result) (s : Shared) : Prop := r = .ok .next ∧ P s
theorem law_loop {prog : Program} {w : World} {A : Around} {R : Result → Shared → Prop} {s : Shared} {target : PySem.Expr} {itv : Value} {body orelse : List Stmt} {env : Env} {hb : Heap} {L D it : Addr} {ws : List Value} {d : Drawn} {os : OsState}
    (turn : ∀ n s, LawI hb L D it ws d os n s → wpAny (model prog w) A (pyNext itv) (fun r s₁ => match r with
      | none => wpAny (model prog w) A (execs orelse env) (fun f s₃ => LawR (LawP hb L d os) (.ok f) s₃) (notedBy (model prog w) A env fun e s' => LawR (LawP hb L d os) (.error e) s') s₁
      | some v => wpAny (model prog w) A (letOwnedTupleGo target itv v) (fun _ s₁' =>
          wpAny (model prog w) A (assign target env v) (fun _ s₂ => wpAny (model prog w) A (execs body env) (fun f s₃ => match f with
            | .next | .cont => Back n (LawI hb L D it ws d os) s₃
            | .brk => LawR (LawP hb L d os) (.ok .next) s₃
            | .ret v => LawR (LawP hb L d os) (.ok (.ret v)) s₃) (notedBy (model prog w) A env fun e s' => LawR (LawP hb L d os) (.error e) s') s₂) (notedBy (model prog w) A env fun e s' => LawR (LawP hb L d os) (.error e) s') s₁') (notedBy (model prog w) A env fun e s' => LawR (LawP hb L d os) (.error e) s') s₁) (notedBy (model prog w) A env fun e s' => LawR (LawP hb L d os) (.error e) s') s)
    (n : Nat) (h : LawI hb L D it ws d os n s) (post : ∀ s', LawP hb L d os s' → R (.ok .next) s') : codeAny (model prog w) A (.forLoop target itv body orelse env) R s :=
  codeAny_mono (my_for (R := LawR (LawP hb L d os)) _ turn n h) fun r s' hr => hr.1 ▸ post s' hr.2
theorem LawI.elim {hb : Heap} {L D it : Addr} {ws : List Value} {d : Drawn} {os : OsState} {n : Nat} {s : Shared} {P : Shared → Prop} (I : LawI hb L D it ws d os n s)
    (k : ∀ (h : Heap) (g : Array GenState) (tk : Nat) (m : Str → Option Value) (ps : Array Value) (i : Nat) (oi : Obj), i + n = ws.length → TriplesOk ps.toList → AllBare g → Fr hb L h m → News hb L h [(147, tableObj ps), (it, oi), (D, W.listOf ws.toArray 0)] → oi.cls = .type "list_iterator" → oi.data = .fields #[.ref D, .int i 0] → P ⟨h, g, d, tk, os⟩) : P s := by
  obtain ⟨h, g, tk, m, ps, i, oi, rfl, a1, a2, a3, a4, a5, a6, a7⟩ := I
  exact k h g tk m ps i oi a1 a2 a3 a4 a5 a6 a7
theorem ne2 {d a1 a2 : Addr} {o1 o2 : Obj} (h1 : a1 ≠ d) (h2 : a2 ≠ d) : ∀ q ∈ [(a1, o1), (a2, o2)], q.1 ≠ d := by
  intro q hq
  simp only [List.mem_cons, List.not_mem_nil, or_false] at hq
  rcases hq with rfl | rfl
  · exact h1
  · exact h2
theorem news_it {h₀ h h' : Heap} {L it D : Addr} {o o' oD ot : Obj} (N : News h₀ L h [(147, ot), (it, o), (D, oD)]) (n1 : it ≠ 147) (n2 : D ≠ it) (k : ∀ b x, b ≠ it → h.get? b = some x → h'.get? b = some x) (e : h'.get? it = some o') : News h₀ L h' [(147, ot), (it, o'), (D, oD)] := by
  have N2 : News h₀ L h [(it, o), (147, ot), (D, oD)] := news_swap N
  exact news_swap (grow_news N2 (ne2 (Ne.symm n1) n2) k e)
local macro_rules | `(tactic| walk_at "call ref") => `(tactic| ((with_reducible show wpAny _ _ (PySem.call (Value.ref 229) _) _ _ _); refine Stop.mk' ?_))
local macro_rules | `(tactic| walk_at "exec For Name BinOp cons nil") => `(tactic| refine Stop.mk' ?_)
local macro_rules | `(tactic| walk_at "pyIter ref") => `(tactic| refine Stop.mk' ?_)
local macro_rules | `(tactic| k_room) => `(tactic| ktr_room)
local macro_rules | `(tactic| k_units) => `(tactic| ktr_units)
set_option maxHeartbeats 0 in
theorem fin : PySem.Challenge.rw_wu0076_01.Holds := by
  w_on
  o_law
  refine holds_open (q := view) (loose := [Str.ofString "_Accumulator"]) (Xt := seenTop) (XP := XL view []) (Yf := hook.obs) (Ya := hook.val) (YP := hook.says) (N := 2788) left hook.of hook.keeps (fun s e => xl_of s (Bool.and_eq_true_iff.mp e).1) XL.keeps (by rfl) (by rfl) (by rfl) (fun s e => recFacts_of (Bool.and_eq_true_iff.mp e).2) (by rfl) (by first | assumption | decide +kernel) (by decide +kernel) ⟨rfl, rfl, rfl, rfl, rfl, by decide +kernel⟩ ?hw ?hc
  case hw => w_witness2
  case hc =>
  intro w s₀ s₁ mg mb G Y fa o pm cd doc dV kV ho hd hcd hD hmg hg args vals as hpre hlay hrd hwl hlo
  have KX : (Mine.hd.heap_1 w.params).In s₁.heap := km_in_of Y
  revert KX
  k_fill
  intro KX
  have h147 : s₁.heap.get? 147 = some (tabObj #[]) := km_tabs_of Y 147 (.head _)
  have X := (Ground.X G).1
  have V := (Ground.X G).2
  refine Ground.open G ?_
  intro T B D TE TW
  try (refine guard_noD D (by decide +kernel) ?_; clear D)
  have hT9 : TabsAt ([(151, 147)] : List (Addr × Addr)) _ := List.forall_mem_cons.mpr ⟨⟨codeHd_of_K (c := 151) (P := 147) KX (by kernel_rfl), h147⟩, fun _ h => nomatch h⟩
  clear hmg
  wrow_args hpre hlay hrd hwl hlo
  first | refine callC_kw (enter_call ?_) | refine enter_call ?_
  w_top on
  refine my_post hT9 (fun _ _ => rfl) ?hp ?_
  case hp => wrow_post
  w_call any ho hd hcd hD T F
  clear hd
  kn_ghosts F T
  rename Top topProg _ _ _ _ _ => Tq
  obtain ⟨loose, T9⟩ : ∃ l, Top topProg l (ExcName.means s₀.heap) mg mb (ghostOf s₁.heap [(151, 147)]) := ⟨_, Tq⟩
  clear Tq T B TE TW V X G Y
  k_drop
  (all_goals try k_fold)
  k_steps
  refine Stop.out ?_
  refine wpAny_For ?_
  k_steps
  refine Stop.out ?_
  rename Fr _ _ _ _ => F1
  rename News _ _ _ _ => N1
  have hI1 := ‹IntsAre _ ([_] ++ _)›
  refine wpAny_pyIter_list (News.isList N1 (by k_mem)) ?_
  rename_i D8 ws8 h8 hI8 l8
  dsimp only
  obtain ⟨F2, N2, n1, n2, n3⟩ := start_it F1 N1 l8.2.2
  clear F1 N1
  have hb0 : AllBare s₁.gens := AllBare.of_eq hg
  refine law_loop ?turn ws8.length ⟨_, _, _, _, #[], 0, lit D8 0, rfl, Nat.zero_add _, trivial, hb0, F2, N2, rfl, rfl⟩ ?post
  case turn =>
    clear F2 N2
    intro n st hI
    refine LawI.elim hI ?_
    clear hI
    intro h7 g7 tk7 m7 ps7 i oi hlen hT7 hb7 F7 N7 hc hd
    cases n with
    | zero =>
      refine wpAny_pyNext_list_end rfl ⟨_, (N7 _ (.tail _ (.head _))).1, hc, hd⟩ (News.isList N7 (by k_mem)) (by simp; omega) ?_
      intro h9 hx9
      have F9 := grow_fr F7 (news_swap N7) hx9
      dsimp only
      refine wpAny_execs_nil ?_
      exact ⟨rfl, _, _, _, _, _, rfl, hb7, F9, fun q hq => by
        rw [List.mem_singleton.mp hq]
        have w := N7 _ (.head _)
        exact ⟨hx9 _ _ (Ne.symm n1) w.1, w.2⟩⟩
    | succ n =>
      obtain ⟨k, t, hx⟩ := ints_at hI1 (i := i) (by omega)
      refine wpAny_pyNext_list_item ⟨_, (N7 _ (.tail _ (.head _))).1, hc, hd⟩ (News.isList N7 (by k_mem)) (by simpa using hx) ?_
      intro h9 hit9 hsb9
      obtain ⟨o9, e9, c9, d9⟩ := hit9
      have kp9 : ∀ b o, b ≠ h8.objs.size → h7.get? b = some o → h9.get? b = some o := fun b o hb e => (hsb9.2 b hb).trans e
      have F9 := grow_fr F7 (news_swap N7) kp9
      have N9 := news_it N7 n1 n2 kp9 e9
      clear N7 F7 hsb9 kp9 e9
      dsimp only
      refine wpAny_pure ?_
      k_steps
      refine Stop.out ?_
      rename Fr _ _ _ _ => F10
      rename News _ _ _ _ => N10
      have X10 := ‹Frag.In (Mine.hd.heap_1 _) (ghostOf _ _)›
      have B10 := ‹Below _ _ _ _›
      refine ct1_use (run_ct w k t) (dp := callerA.depth + 1) (un := callerA.units + 3) (cl := []) (outer := []) B10 F10 X10 N10 hT7 (ne2 n1 n3) T9 rfl hb7 (by decide) (by decide) ?_
      intro r11 ps11 h11 tk11 g11 F11 N11 hT11 hb11 x11
      have x12 : r11 = .bool true := x11
      subst x12
      clear F10 N10
      dsimp only
      k_steps
      exact ⟨n, Nat.lt_succ_self n, _, _, _, _, _, i + 1, _, rfl, by omega, hT11, hb11, F11, N11, c9, d9⟩
  case post =>
    intro s9 hP
    obtain ⟨h9, g9, tk9, m9, ps9, rfl, hb9, F9, N9⟩ := hP
    clear F2 N2
    dsimp only
    k_steps
    exact ⟨rfl, F9.keep, rfl, hb9, ⟨ps9, (N9 _ (.head _)).1⟩, trivial⟩
end Mine
end

theorem PySem.Challenge.cw_wu0076_01_holds : PySem.Challenge.rw_wu0076_01.Holds :=
  Mine.fin
