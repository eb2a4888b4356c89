import PyProof.Rows.All
import Wide.All
import OpenK.AllK
import Wide.FinOn
import PySem.Challenge.RW_rs0128_01
open PySem PySem.W PyProof.Rows PySem.Calls
set_option Elab.async false
set_option maxRecDepth 100000
set_option compiler.extract_closed false
set_option maxHeartbeats 0
namespace Mine
open_top hd for PySem.Challenge.rw_rs0128_01
end Mine
set_option maxHeartbeats 4000000
namespace Mine
/-- the rest of the state: what a call leaves of generators and the outer world -/
structure Rs (g : Array GenState) (os : OsState) (g' : Array GenState) (os' : OsState) : Prop where
  os : os' = os
  size : g.size ≤ g'.size
  gens : ∀ i, i < g.size → g'[i]? = g[i]?
  bare : AllBare g → AllBare g'
theorem Rs.refl (g : Array GenState) (os : OsState) : Rs g os g os := ⟨rfl, Nat.le_refl _, fun _ _ => rfl, id⟩
theorem Rs.trans {g os g' os' g'' os''} (a : Rs g os g' os') (b : Rs g' os' g'' os'') : Rs g os g'' os'' :=
  ⟨b.os.trans a.os, Nat.le_trans a.size b.size, fun i hi => (b.gens i (Nat.lt_of_lt_of_le hi a.size)).trans (a.gens i hi), fun h => b.bare (a.bare h)⟩
/-- what a call leaves: all that stood stands -/
structure Kp (s s' : Shared) : Prop where
  heap : ∀ b o, s.heap.get? b = some o → s'.heap.get? b = some o
  rest : Rs s.gens s.os s'.gens s'.os
theorem Kp.refl (s : Shared) : Kp s s := ⟨fun _ _ e => e, Rs.refl _ _⟩
theorem Kp.trans {s s' s'' : Shared} (a : Kp s s') (b : Kp s' s'') : Kp s s'' :=
  ⟨fun x o e => b.heap x o (a.heap x o e), a.rest.trans b.rest⟩
theorem Kp.of {s s' : Shared} {L : Addr} {m : Str → Option Value} (F : Fr s.heap L s'.heap m) (R : Rs s.gens s.os s'.gens s'.os) : Kp s s' := ⟨F.keep, R⟩

/-- the text's top as the call finds it -/
structure TK (w : World) (mean : ExcName → Option Value) (mg mb : Str → Option Value) (h : Heap) : Prop where
  k : (Mine.hd.heap_39 w.params).In h
  t : Top Mine.hd.view_39 [Str.ofString "EXACT_TOKEN_TYPES"] mean mg mb h
theorem TK.keeps {w mean mg mb} {h h' : Heap} (T : TK w mean mg mb h) (k : ∀ b o, h.get? b = some o → h'.get? b = some o) : TK w mean mg mb h' :=
  ⟨fun a o e => k a o (T.k a o e), T.t.keeps k⟩

theorem fr_kp {h₀ : Heap} {L : Addr} {m : Str → Option Value} {s s' : Shared} (F : Fr h₀ L s.heap m) (k : Kp s s') : Fr h₀ L s'.heap m :=
  ⟨F.ns.at' fun o e => k.heap _ o e, fun b o e => k.heap b o (F.keep b o e), F.above⟩
theorem news_kp {h₀ : Heap} {L : Addr} {news} {s s' : Shared} (N : News h₀ L s.heap news) (k : Kp s s') : News h₀ L s'.heap news := N.grown k.heap

theorem norm_cons {m f : Str → Option Value} {x v} (h : m x = v) (hf : m = f) : m = fun y => if y = x then v else f y := by
  funext y
  by_cases e : y = x
  · subst e; simp [h]
  · simp [e, congrFun hf y]
theorem norm1 {m : Str → Option Value} {x1 v1} (h1 : m x1 = v1) : m = fun y => if y = x1 then v1 else m y := norm_cons h1 rfl
theorem norm2 {m : Str → Option Value} {x1 v1 x2 v2} (h1 : m x1 = v1) (h2 : m x2 = v2) : m = fun y => if y = x1 then v1 else if y = x2 then v2 else m y := norm_cons h1 (norm1 h2)
theorem norm3 {m : Str → Option Value} {x1 v1 x2 v2 x3 v3} (h1 : m x1 = v1) (h2 : m x2 = v2) (h3 : m x3 = v3) :
    m = fun y => if y = x1 then v1 else if y = x2 then v2 else if y = x3 then v3 else m y := norm_cons h1 (norm2 h2 h3)
theorem norm4 {m : Str → Option Value} {x1 v1 x2 v2 x3 v3 x4 v4} (h1 : m x1 = v1) (h2 : m x2 = v2) (h3 : m x3 = v3) (h4 : m x4 = v4) :
    m = fun y => if y = x1 then v1 else if y = x2 then v2 else if y = x3 then v3 else if y = x4 then v4 else m y := norm_cons h1 (norm3 h2 h3 h4)
theorem for_genR {prog : Program} {w : World} {A : Around} {env : Env} {target : Expr} {body : List Stmt} {R : Result → Shared → Prop} {s : Shared} {it : Value} {n : Nat}
    (J : Nat → Shared → Prop) (start : J 0 s)
    (turn : ∀ (E' : Value → Shared → Prop) i s₁, i < n → J i s₁ → wpAny (model prog w) A (pyNext it) (fun r s₂ => ∃ v, r = some v ∧
      wpAny (model prog w) A (letOwnedTupleGo target it v) (fun _ s₂ => wpAny (model prog w) A (assign target env v) (fun _ s₃ => wpAny (model prog w) A (execs body env) (fun f s₄ => match f with
        | .next | .cont => J (i + 1) s₄
        | .brk => R (.ok .next) s₄
        | .ret v => R (.ok (.ret v)) s₄) E' s₃) E' s₂) E' s₂) E' s₁)
    (done : ∀ (E' : Value → Shared → Prop) s₁, J n s₁ → wpAny (model prog w) A (pyNext it) (fun r s₂ => r = none ∧ R (.ok .next) s₂) E' s₁) :
    codeAny (model prog w) A (.forLoop target it body [] env) R s := by
  refine codeAny_forLoop_any (fun k s' => ∃ i, i ≤ n ∧ k = n - i ∧ J i s') ?_ n ⟨0, Nat.zero_le _, rfl, start⟩
  rintro k s' ⟨i, hi, rfl, hJ⟩
  by_cases hlt : i < n
  · refine wpAny_mono (turn _ i s' hlt hJ) (fun r s₂ h₂ => ?_) fun _ _ e => e
    obtain ⟨v, rfl, h₂⟩ := h₂
    refine wpAny_mono h₂ (fun _ s₃ h₃ => wpAny_mono h₃ (fun _ s₅ h₅ => wpAny_mono h₅ (fun f s₄ h₄ => ?_) fun _ _ e => e) fun _ _ e => e) fun _ _ e => e
    cases f with
    | next => exact ⟨n - (i + 1), by omega, i + 1, hlt, rfl, h₄⟩
    | cont => exact ⟨n - (i + 1), by omega, i + 1, hlt, rfl, h₄⟩
    | brk => exact h₄
    | ret v => exact h₄
  · have : i = n := by omega
    subst this
    refine wpAny_mono (done _ s' hJ) (fun r s₂ h₂ => ?_) fun _ _ e => e
    obtain ⟨rfl, h₂⟩ := h₂
    exact wpAny_execs_nil h₂

theorem for_genT {prog : Program} {w : World} {A : Around} {env : Env} {target : Expr} {body : List Stmt} {Q : Flow → Shared → Prop} {E : Value → Shared → Prop} {s : Shared} {it : Value} {n : Nat}
    (J : Nat → Shared → Prop) (start : J 0 s)
    (turn : ∀ (E' : Value → Shared → Prop) i s₁, i < n → J i s₁ → wpAny (model prog w) A (pyNext it) (fun r s₂ => ∃ v, r = some v ∧
      wpAny (model prog w) A (letOwnedTupleGo target it v) (fun _ s₂ => wpAny (model prog w) A (assign target env v) (fun _ s₃ => wpAny (model prog w) A (execs body env) (fun f s₄ => match f with
        | .next | .cont => J (i + 1) s₄
        | .brk => Q .next s₄
        | .ret v => Q (.ret v) s₄) E' s₃) E' s₂) E' s₂) E' s₁)
    (done : ∀ (E' : Value → Shared → Prop) s₁, J n s₁ → wpAny (model prog w) A (pyNext it) (fun r s₂ => r = none ∧ Q .next s₂) E' s₁) :
    codeAny (model prog w) A (.forLoop target it body [] env) (fun r s' => match r with | .ok f => Q f s' | .error e => cameBackBy (model prog w) A env E e s') s := by
  exact for_genR J start (fun E' i s₁ hi hJ => wpAny_mono (turn E' i s₁ hi hJ) (fun r s₂ h => by
    obtain ⟨v, e, h⟩ := h
    exact ⟨v, e, wpAny_mono h (fun _ _ h => wpAny_mono h (fun _ _ h => wpAny_mono h (fun f _ h => by cases f <;> exact h) fun _ _ e => e) fun _ _ e => e) fun _ _ e => e⟩) fun _ _ e => e) (fun E' s₁ hJ => wpAny_mono (done E' s₁ hJ) (fun _ _ h => h) fun _ _ e => e)

theorem for_gen {prog : Program} {w : World} {A : Around} {env : Env} {target : Expr} {body : List Stmt} {Q : Flow → Shared → Prop} {E : Value → Shared → Prop} {s : Shared} {it : Value} {n : Nat}
    (J : Nat → Shared → Prop) (start : J 0 s)
    (turn : ∀ (E' : Value → Shared → Prop) i s₁, i < n → J i s₁ → wpAny (model prog w) A (pyNext it) (fun r s₂ => ∃ v, r = some v ∧
      wpAny (model prog w) A (assign target env v) (fun _ s₃ => wpAny (model prog w) A (execs body env) (fun f s₄ => match f with
        | .next | .cont => J (i + 1) s₄
        | .brk => Q .next s₄
        | .ret v => Q (.ret v) s₄) E' s₃) E' s₂) E' s₁)
    (done : ∀ (E' : Value → Shared → Prop) s₁, J n s₁ → wpAny (model prog w) A (pyNext it) (fun r s₂ => r = none ∧ Q .next s₂) E' s₁)
    (ht : ∀ v, letOwnedTupleGo target it v = pure () := by intro _; rfl) :
    codeAny (model prog w) A (.forLoop target it body [] env) (fun r s' => match r with | .ok f => Q f s' | .error e => cameBackBy (model prog w) A env E e s') s := by
  refine for_genT J start (fun E' i s₁ hi hJ => wpAny_mono (turn E' i s₁ hi hJ) (fun r s₂ h => ?_) fun _ _ e => e) done
  obtain ⟨v, e, h⟩ := h
  exact ⟨v, e, wpAny_of_eq (ht v) h⟩

theorem fr_same {h₀ h h' : Heap} {L I : Addr} {m : Str → Option Value} (F : Fr h₀ L h m) (hI : I ≠ L) (h0 : h₀.get? I = none) (hs : Heap.SameBut I h h') : Fr h₀ L h' m :=
  ⟨F.ns.at' fun o e => hs.extBut L o (Ne.symm hI) e, fun b o e => hs.extBut b o (fun z => by subst z; rw [e] at h0; cases h0) (F.keep b o e), F.above⟩
theorem fr_ext {h₀ h h' : Heap} {L I : Addr} {m : Str → Option Value} (F : Fr h₀ L h m) (hI : I ≠ L) (h0 : h₀.get? I = none) (hs : Heap.ExtBut I h h') : Fr h₀ L h' m :=
  ⟨F.ns.at' fun o e => hs L o (Ne.symm hI) e, fun b o e => hs b o (fun z => by subst z; rw [e] at h0; cases h0) (F.keep b o e), F.above⟩
theorem news_ext {h₀ h h' : Heap} {L I : Addr} {o : Obj} {rest : List (Addr × Obj)} (N : News h₀ L h ((I, o) :: rest)) (hoff : ∀ p ∈ rest, p.1 ≠ I) (hs : Heap.ExtBut I h h') : News h₀ L h' rest :=
  fun p hp => ⟨hs p.1 p.2 (hoff p hp) (N p (.tail _ hp)).1, (N p (.tail _ hp)).2⟩
theorem fresh_lt {h₀ h : Heap} {L : Addr} {m : Str → Option Value} (F : Fr h₀ L h m) : L < h.objs.size := F.ns.lt
theorem fresh_none {h₀ h : Heap} {L : Addr} {m : Str → Option Value} (F : Fr h₀ L h m) : h₀.get? h.objs.size = none := by
  cases e : h₀.get? h.objs.size with
  | none => rfl
  | some o => exact absurd (Heap.lt_size (F.keep _ _ e)) (Nat.lt_irrefl _)
theorem news_push {h₀ h : Heap} {L : Addr} {m : Str → Option Value} {news : List (Addr × Obj)} (F : Fr h₀ L h m) (N : News h₀ L h news) (o : Obj) (hf : o.isFreed = false) :
    News h₀ L (h.push o) ((h.objs.size, o) :: news) ∧ (∀ p ∈ news, p.1 < h.objs.size) := by
  refine ⟨fun p hp => ?_, fun p hp => Heap.lt_size (N p hp).1⟩
  rcases List.mem_cons.mp hp with rfl | hp
  · exact ⟨Heap.get?_push_size _ hf, Nat.ne_of_gt (fresh_lt F), fresh_none F⟩
  · exact ⟨Heap.get?_push_of_some _ (N p hp).1, (N p hp).2⟩

noncomputable def IsLI (o : Obj) (l : Addr) (i : Nat) : Prop := o.cls = .type "list_iterator" ∧ o.data = .fields #[.ref l, .int i 0]
noncomputable def IsTI (o : Obj) (l : Addr) (i : Nat) : Prop := o.cls = .type "tuple_iterator" ∧ o.data = .fields #[.ref l, .int i 0]
noncomputable def IsSI (o : Obj) (x : Str) (t : Tok) (i : Nat) : Prop := o.cls = .type "str_ascii_iterator" ∧ o.data = .fields #[.str x t, .int i 0]

section
variable {prog : Program} {w : World} {A : Around} {env : Env} {x : Str} {px : Pos} {body : List Stmt} {Q : Flow → Shared → Prop} {E : Value → Shared → Prop} {s : Shared} {s₀ : Shared} {m : Str → Option Value} {news : List (Addr × Obj)}

/-- a turn's end, with the iterator's own object aside -/
noncomputable def TurnEnd (s₀ : Shared) (L I : Addr) (o : Obj) (J : (Str → Option Value) → List (Addr × Obj) → Prop) (Q : Flow → Shared → Prop) (f : Flow) (s₄ : Shared) : Prop := match f with
  | .next | .cont => ∃ m₄ own₄, J m₄ own₄ ∧ Fr s₀.heap L s₄.heap m₄ ∧ News s₀.heap L s₄.heap ((I, o) :: own₄) ∧ Rs s₀.gens s₀.os s₄.gens s₄.os ∧ (∀ p ∈ own₄, p.1 ≠ I)
  | .brk => Q .next s₄
  | .ret v => Q (.ret v) s₄

theorem for_any {L I : Addr} {n : Nat} {target : Expr} {P : Nat → Value → Prop} {OK : Nat → Obj → Prop} {o₀ : Obj}
    (J : Nat → (Str → Option Value) → List (Addr × Obj) → Prop)
    (asg : ∀ (E' : Value → Shared → Prop) i v s₁ m₁ own₁ (Q' : Unit → Shared → Prop), P i v → Fr s₀.heap L s₁.heap m₁ → News s₀.heap L s₁.heap own₁ →
      (∀ h' tk, Fr s₀.heap L h' (fun y => if y = x then some v else m₁ y) → News s₀.heap L h' own₁ → Q' () { s₁ with heap := h', toks := tk }) → wpAny (model prog w) A (assign target env v) Q' E' s₁)
    (item : ∀ (E' : Value → Shared → Prop) i s₁ o m₁ own₁ (Q' : Option Value → Shared → Prop), i < n → J i m₁ own₁ → OK i o → Fr s₀.heap L s₁.heap m₁ → News s₀.heap L s₁.heap ((I, o) :: own₁) → (∀ p ∈ own₁, p.1 ≠ I) →
      (∀ v h' tk o', P i v → OK (i + 1) o' → Fr s₀.heap L h' m₁ → News s₀.heap L h' ((I, o') :: own₁) → Q' (some v) { s₁ with heap := h', toks := tk }) → wpAny (model prog w) A (pyNext (.ref I)) Q' E' s₁)
    (last : ∀ (E' : Value → Shared → Prop) s₁ o m₁ own₁ (Q' : Option Value → Shared → Prop), J n m₁ own₁ → OK n o → Fr s₀.heap L s₁.heap m₁ → News s₀.heap L s₁.heap ((I, o) :: own₁) → (∀ p ∈ own₁, p.1 ≠ I) →
      (∀ h' tk, Fr s₀.heap L h' m₁ → News s₀.heap L h' own₁ → Q' none { s₁ with heap := h', toks := tk }) → wpAny (model prog w) A (pyNext (.ref I)) Q' E' s₁)
    (hJ : J 0 m news) (h0 : OK 0 o₀) (F : Fr s₀.heap L s.heap m) (N : News s₀.heap L s.heap ((I, o₀) :: news)) (hoff : ∀ p ∈ news, p.1 ≠ I) (R : Rs s₀.gens s₀.os s.gens s.os)
    (turn : ∀ (E' : Value → Shared → Prop) i v s₁ m₁ own₁ o, i < n → P i v → J i m₁ own₁ → OK (i + 1) o → Fr s₀.heap L s₁.heap (fun y => if y = x then some v else m₁ y) → News s₀.heap L s₁.heap ((I, o) :: own₁) →
      Rs s₀.gens s₀.os s₁.gens s₁.os → (∀ p ∈ own₁, p.1 ≠ I) → wpAny (model prog w) A (execs body env) (TurnEnd s₀ L I o (J (i + 1)) Q) E' s₁)
    (done : ∀ s₁ m₁ own₁, J n m₁ own₁ → Fr s₀.heap L s₁.heap m₁ → News s₀.heap L s₁.heap own₁ → Rs s₀.gens s₀.os s₁.gens s₁.os → Q .next s₁)
    (ht : ∀ v, letOwnedTupleGo target (.ref I) v = pure ()) :
    codeAny (model prog w) A (.forLoop target (.ref I) body [] env) (fun r s' => match r with | .ok f => Q f s' | .error e => cameBackBy (model prog w) A env E e s') s := by
  refine for_gen (n := n) (fun i s₁ => ∃ m₁ own₁ o, J i m₁ own₁ ∧ OK i o ∧ Fr s₀.heap L s₁.heap m₁ ∧ News s₀.heap L s₁.heap ((I, o) :: own₁) ∧ Rs s₀.gens s₀.os s₁.gens s₁.os ∧ (∀ p ∈ own₁, p.1 ≠ I))
    ⟨m, news, o₀, hJ, h0, F, N, R, hoff⟩ ?_ ?_ ht
  · rintro E' i s₁ hi ⟨m₁, own₁, o, hJ₁, hO, F₁, N₁, R₁, off₁⟩
    refine item E' i s₁ o m₁ own₁ _ hi hJ₁ hO F₁ N₁ off₁ fun v h' tk o' hP hO' F' N' => ⟨v, rfl, ?_⟩
    refine asg E' i v _ m₁ _ _ hP F' N' fun h₂ tk₂ F₂ N₂ => ?_
    refine wpAny_mono (turn E' i v _ m₁ own₁ o' hi hP hJ₁ hO' F₂ N₂ R₁ off₁) (fun f s₄ h₄ => ?_) fun _ _ e => e
    cases f with
    | next => obtain ⟨m₄, own₄, a, b, c, d, e⟩ := h₄; exact ⟨m₄, own₄, o', a, hO', b, c, d, e⟩
    | cont => obtain ⟨m₄, own₄, a, b, c, d, e⟩ := h₄; exact ⟨m₄, own₄, o', a, hO', b, c, d, e⟩
    | brk => exact h₄
    | ret v => exact h₄
  · rintro E' s₁ ⟨m₁, own₁, o, hJ₁, hO, F₁, N₁, R₁, off₁⟩
    exact last E' s₁ o m₁ own₁ _ hJ₁ hO F₁ N₁ off₁ fun h' tk F' N' => ⟨rfl, done _ m₁ own₁ hJ₁ F' N' R₁⟩

theorem asg_name {env : Env} {L : Addr} (hL : env.locals = L) (hx : env.kindOf x = some .local)
    (hp : (env.scope.kind == .class || (env.scope.kind == .module && env.locals != env.globals)) = false) {P : Nat → Value → Prop} :
    ∀ (E' : Value → Shared → Prop) i v s₁ m₁ own₁ (Q' : Unit → Shared → Prop), P i v → Fr s₀.heap L s₁.heap m₁ → News s₀.heap L s₁.heap own₁ →
      (∀ h' tk, Fr s₀.heap L h' (fun y => if y = x then some v else m₁ y) → News s₀.heap L h' own₁ → Q' () { s₁ with heap := h', toks := tk }) → wpAny (model prog w) A (assign (.Name x px) env v) Q' E' s₁ := by
  subst hL
  intro E' i v s₁ m₁ own₁ Q' _ F N h
  exact wpAny_assign_Name (wpAny_storeName_local hx F.ns (fun h' hn hs => h h' _ (F.set hn hs) (N.set hs)) hp)

/-- for over a range that stands at I -/
theorem for_range {L I : Addr} {n : Nat} (J : Nat → (Str → Option Value) → List (Addr × Obj) → Prop)
    (hh : A.handled = none) (hL : env.locals = L) (hx : env.kindOf x = some .local)
    (hp : (env.scope.kind == .class || (env.scope.kind == .module && env.locals != env.globals)) = false)
    (hJ : J 0 m news) (F : Fr s₀.heap L s.heap m) (N : News s₀.heap L s.heap ((I, { cls := .type "range_iterator", data := .fields #[rawInt 0, rawInt n, rawInt 1] }) :: news)) (hoff : ∀ p ∈ news, p.1 ≠ I) (R : Rs s₀.gens s₀.os s.gens s.os)
    (turn : ∀ (E' : Value → Shared → Prop) (i : Nat) t s₁ m₁ own₁ o, i < n → J i m₁ own₁ → Fr s₀.heap L s₁.heap (fun y => if y = x then some (.int i t) else m₁ y) → News s₀.heap L s₁.heap ((I, o) :: own₁) →
      Rs s₀.gens s₀.os s₁.gens s₁.os → (∀ p ∈ own₁, p.1 ≠ I) → wpAny (model prog w) A (execs body env) (TurnEnd s₀ L I o (J (i + 1)) Q) E' s₁)
    (done : ∀ s₁ m₁ own₁, J n m₁ own₁ → Fr s₀.heap L s₁.heap m₁ → News s₀.heap L s₁.heap own₁ → Rs s₀.gens s₀.os s₁.gens s₁.os → Q .next s₁) :
    codeAny (model prog w) A (.forLoop (.Name x px) (.ref I) body [] env) (fun r s' => match r with | .ok f => Q f s' | .error e => cameBackBy (model prog w) A env E e s') s := by
  refine for_any (P := fun i v => ∃ t, v = .int i t) (OK := fun i o => o = { cls := .type "range_iterator", data := .fields #[rawInt i, rawInt ((n : Int) - i), rawInt 1] }) J (asg_name hL hx hp) ?_ ?_ hJ ?_ F N hoff R ?_ done (fun _ => rfl)
  · rintro E' i s₁ o m₁ own₁ Q' hi _ rfl F₁ N₁ off₁ hQ
    have hit := (N₁ _ (.head _)).1
    refine wpAny_pyNext_range_item hit (by omega) fun h' hit' hs' => ?_
    refine hQ _ h' _ _ ⟨_, rfl⟩ rfl (fr_same F₁ (N₁ _ (.head _)).2.1 (N₁ _ (.head _)).2.2 hs') (News.setHead N₁ off₁ hs' ?_)
    have e1 : ((i + 1 : Nat) : Int) = (i : Int) + 1 := by push_cast; rfl
    have e2 : (n : Int) - ((i + 1 : Nat) : Int) = (n : Int) - (i : Int) - 1 := by push_cast; omega
    rw [e1] at *
    have e3 : (n : Int) - ((i : Int) + 1) = (n : Int) - (i : Int) - 1 := by omega
    rw [e3]; exact hit'
  · rintro E' s₁ o m₁ own₁ Q' _ rfl F₁ N₁ off₁ hQ
    exact wpAny_pyNext_range_end hh (N₁ _ (.head _)).1 (by omega) fun h' he' => hQ h' _ (fr_ext F₁ (N₁ _ (.head _)).2.1 (N₁ _ (.head _)).2.2 he') (news_ext N₁ off₁ he')
  · simp
  · rintro E' i v s₁ m₁ own₁ o hi ⟨t, rfl⟩ hJ₁ _ F₁ N₁ R₁ off₁
    exact turn E' i t s₁ m₁ own₁ o hi hJ₁ F₁ N₁ R₁ off₁

/-- range(n), made and asked for its iterator -/
theorem it_range {h₀ : Heap} {L : Addr} {n : Nat} {t : Tok} {Q : Value → Shared → Prop} (hn : n < 1000) (F : Fr h₀ L s.heap m) (N : News h₀ L s.heap news)
    (h : ∀ I h' tk, Fr h₀ L h' m → News h₀ L h' ((I, { cls := .type "range_iterator", data := .fields #[rawInt 0, rawInt n, rawInt 1] }) :: news) → (∀ p ∈ news, p.1 < I) → Q (.ref I) { s with heap := h', toks := tk }) :
    wpAny (model prog w) A (call (.type "range") [.int n t]) (fun r s₁ => wpAny (model prog w) A (pyIter r) Q E s₁) E s := by
  refine call_range_1 ?_
  have F1 := F.push { cls := .type "range", data := .fields #[.int 0 s.toks, .int n t, .int 1 (s.toks + 1)] }
  have N1 := (news_push F N { cls := .type "range", data := .fields #[.int 0 s.toks, .int n t, .int 1 (s.toks + 1)] } rfl)
  refine wpAny_pyIter_range (IsRange.new _ _ _ _ _ _ _) (small_one (by decide) (by decide) (by omega) (by omega)) ?_
  have e : Builtin.Range.rangeSize 0 n 1 = n := by rw [rangeSize_one]; split <;> omega
  rw [e]
  have N2 := news_push F1 (N1.1.tail') { cls := .type "range_iterator", data := .fields #[rawInt 0, rawInt n, rawInt 1] } rfl
  exact h _ _ _ (F1.push _) N2.1 N2.2

/-- for over a list l (old, or of the ledger) -/
theorem for_list {L I l : Addr} {items : Array Value} {o₀ : Obj} (J : Nat → (Str → Option Value) → List (Addr × Obj) → Prop)
    (hh : A.handled = none) (hL : env.locals = L) (hx : env.kindOf x = some .local)
    (hp : (env.scope.kind == .class || (env.scope.kind == .module && env.locals != env.globals)) = false)
    (hl : ∀ i m₁ own₁ h, J i m₁ own₁ → Fr s₀.heap L h m₁ → News s₀.heap L h own₁ → h.IsList l items)
    (hJ : J 0 m news) (h0 : IsLI o₀ l 0) (F : Fr s₀.heap L s.heap m) (N : News s₀.heap L s.heap ((I, o₀) :: news)) (hoff : ∀ p ∈ news, p.1 ≠ I) (R : Rs s₀.gens s₀.os s.gens s.os)
    (turn : ∀ (E' : Value → Shared → Prop) (i : Nat) v s₁ m₁ own₁ o, items[i]? = some v → J i m₁ own₁ → Fr s₀.heap L s₁.heap (fun y => if y = x then some v else m₁ y) → News s₀.heap L s₁.heap ((I, o) :: own₁) →
      Rs s₀.gens s₀.os s₁.gens s₁.os → (∀ p ∈ own₁, p.1 ≠ I) → wpAny (model prog w) A (execs body env) (TurnEnd s₀ L I o (J (i + 1)) Q) E' s₁)
    (done : ∀ s₁ m₁ own₁, J items.size m₁ own₁ → Fr s₀.heap L s₁.heap m₁ → News s₀.heap L s₁.heap own₁ → Rs s₀.gens s₀.os s₁.gens s₁.os → Q .next s₁) :
    codeAny (model prog w) A (.forLoop (.Name x px) (.ref I) body [] env) (fun r s' => match r with | .ok f => Q f s' | .error e => cameBackBy (model prog w) A env E e s') s := by
  refine for_any (n := items.size) (P := fun i v => items[i]? = some v) (OK := fun i o => IsLI o l i) J (asg_name hL hx hp) ?_ ?_ hJ h0 F N hoff R ?_ done (fun _ => rfl)
  · rintro E' i s₁ o m₁ own₁ Q' hi hJ₁ hO F₁ N₁ off₁ hQ
    have hit : s₁.heap.IsListIter I l i := ⟨o, (N₁ _ (.head _)).1, hO⟩
    refine wpAny_pyNext_list_item hit (hl i m₁ own₁ _ hJ₁ F₁ N₁.tail') (x := items[i]) (by simp [hi]) fun h' hit' hs' => ?_
    obtain ⟨o', ho', hc', hd'⟩ := hit'
    exact hQ _ h' s₁.toks o' (by simp [hi]) ⟨hc', hd'⟩ (fr_same F₁ (N₁ _ (.head _)).2.1 (N₁ _ (.head _)).2.2 hs') (News.setHead N₁ off₁ hs' ho')
  · rintro E' s₁ o m₁ own₁ Q' hJ₁ hO F₁ N₁ off₁ hQ
    have hit : s₁.heap.IsListIter I l items.size := ⟨o, (N₁ _ (.head _)).1, hO⟩
    exact wpAny_pyNext_list_end hh hit (hl _ m₁ own₁ _ hJ₁ F₁ N₁.tail') (by simp) fun h' he' => hQ h' s₁.toks (fr_ext F₁ (N₁ _ (.head _)).2.1 (N₁ _ (.head _)).2.2 he') (news_ext N₁ off₁ he')
  · rintro E' i v s₁ m₁ own₁ o hi hP hJ₁ _ F₁ N₁ R₁ off₁
    exact turn E' i v s₁ m₁ own₁ o hP hJ₁ F₁ N₁ R₁ off₁
theorem it_list {h₀ : Heap} {L l : Addr} {items : Array Value} {Q : Value → Shared → Prop} (hl : s.heap.IsList l items) (F : Fr h₀ L s.heap m) (N : News h₀ L s.heap news)
    (h : ∀ I h' o, IsLI o l 0 → Fr h₀ L h' m → News h₀ L h' ((I, o) :: news) → (∀ p ∈ news, p.1 < I) → Q (.ref I) { s with heap := h' }) :
    wpAny (model prog w) A (pyIter (.ref l)) Q E s := by
  refine wpAny_pyIter_list hl ?_
  have N1 := news_push F N { cls := .type "list_iterator", data := .fields #[.ref l, .int 0 0] } rfl
  exact h _ _ _ ⟨rfl, rfl⟩ (F.push _) N1.1 N1.2

/-- for over a text of plain signs -/
theorem for_str {L I : Addr} {st : Str} {t : Tok} {o₀ : Obj} (J : Nat → (Str → Option Value) → List (Addr × Obj) → Prop)
    (hh : A.handled = none) (hL : env.locals = L) (hx : env.kindOf x = some .local)
    (hp : (env.scope.kind == .class || (env.scope.kind == .module && env.locals != env.globals)) = false)
    (hJ : J 0 m news) (h0 : IsSI o₀ st t 0) (F : Fr s₀.heap L s.heap m) (N : News s₀.heap L s.heap ((I, o₀) :: news)) (hoff : ∀ p ∈ news, p.1 ≠ I) (R : Rs s₀.gens s₀.os s.gens s.os)
    (turn : ∀ (E' : Value → Shared → Prop) (i : Nat) c u s₁ m₁ own₁ o, st.cps[i]? = some c → J i m₁ own₁ → Fr s₀.heap L s₁.heap (fun y => if y = x then some (.str ⟨#[c]⟩ u) else m₁ y) → News s₀.heap L s₁.heap ((I, o) :: own₁) →
      Rs s₀.gens s₀.os s₁.gens s₁.os → (∀ p ∈ own₁, p.1 ≠ I) → wpAny (model prog w) A (execs body env) (TurnEnd s₀ L I o (J (i + 1)) Q) E' s₁)
    (done : ∀ s₁ m₁ own₁, J st.cps.size m₁ own₁ → Fr s₀.heap L s₁.heap m₁ → News s₀.heap L s₁.heap own₁ → Rs s₀.gens s₀.os s₁.gens s₁.os → Q .next s₁) :
    codeAny (model prog w) A (.forLoop (.Name x px) (.ref I) body [] env) (fun r s' => match r with | .ok f => Q f s' | .error e => cameBackBy (model prog w) A env E e s') s := by
  refine for_any (n := st.cps.size) (P := fun i v => ∃ c u, v = .str ⟨#[c]⟩ u ∧ st.cps[i]? = some c) (OK := fun i o => IsSI o st t i) J (asg_name hL hx hp) ?_ ?_ hJ h0 F N hoff R ?_ done (fun _ => rfl)
  · rintro E' i s₁ o m₁ own₁ Q' hi hJ₁ hO F₁ N₁ off₁ hQ
    have hit : s₁.heap.IsStrIter I "str_ascii_iterator" st t i := ⟨o, (N₁ _ (.head _)).1, hO⟩
    refine wpAny_pyNext_ascii_item hit (c := st.cps[i]) (by simp [hi]) fun h' hit' hs' => ?_
    obtain ⟨o', ho', hc', hd'⟩ := hit'
    exact hQ _ h' _ o' ⟨_, _, rfl, by simp [hi]⟩ ⟨hc', hd'⟩ (fr_same F₁ (N₁ _ (.head _)).2.1 (N₁ _ (.head _)).2.2 hs') (News.setHead N₁ off₁ hs' ho')
  · rintro E' s₁ o m₁ own₁ Q' hJ₁ hO F₁ N₁ off₁ hQ
    have hit : s₁.heap.IsStrIter I "str_ascii_iterator" st t st.cps.size := ⟨o, (N₁ _ (.head _)).1, hO⟩
    exact wpAny_pyNext_ascii_end hh hit (by simp) fun h' he' => hQ h' s₁.toks (fr_ext F₁ (N₁ _ (.head _)).2.1 (N₁ _ (.head _)).2.2 he') (news_ext N₁ off₁ he')
  · rintro E' i v s₁ m₁ own₁ o hi ⟨c, u, rfl, hc⟩ hJ₁ _ F₁ N₁ R₁ off₁
    exact turn E' i c u s₁ m₁ own₁ o hc hJ₁ F₁ N₁ R₁ off₁
theorem it_str {h₀ : Heap} {L : Addr} {st : Str} {t : Tok} {Q : Value → Shared → Prop} (ha : st.cps.all (· < 128) = true) (F : Fr h₀ L s.heap m) (N : News h₀ L s.heap news)
    (h : ∀ I h' o, IsSI o st t 0 → Fr h₀ L h' m → News h₀ L h' ((I, o) :: news) → (∀ p ∈ news, p.1 < I) → Q (.ref I) { s with heap := h' }) :
    wpAny (model prog w) A (pyIter (.str st t)) Q E s := by
  refine wpAny_pyIter_ascii ha ?_
  have N1 := news_push F N { cls := .type "str_ascii_iterator", data := .fields #[.str st t, .int 0 0] } rfl
  exact h _ _ _ ⟨rfl, rfl⟩ (F.push _) N1.1 N1.2
end

/-- a text by the list of its signs -/
noncomputable def sx (l : List Nat) : Str := ⟨l.toArray⟩
theorem sx_len (l : List Nat) : (sx l).length = l.length := by simp [sx, Str.length]
theorem sx_cps (l : List Nat) : (sx l).cps.toList = l := by simp [sx]
theorem sx_app (a b : List Nat) : sx a ++ sx b = sx (a ++ b) := by
  show Str.mk (a.toArray ++ b.toArray) = Str.mk (a ++ b).toArray
  simp
theorem sx_inj {a b : List Nat} : sx a = sx b ↔ a = b := by
  constructor
  · intro h; have := congrArg (fun s => s.cps.toList) h; simpa [sx] using this
  · rintro rfl; rfl
theorem one_sx (c : Nat) : (⟨#[c]⟩ : Str) = sx [c] := rfl
theorem slice_ns (l : List Nat) {j : Int} (h0 : 0 ≤ j) (h1 : j ≤ l.length) : Txt.slice (sx l) none (some j) = sx (l.take j.toNat) := by
  have := StrLaws.sliceText_to (x := sx l) (j := j) ⟨h0, by rw [sx_cps]; exact h1⟩
  rw [sx_cps] at this
  refine (show Txt.slice (sx l) none (some j) = _ from this).trans ?_
  show sx _ = _
  rw [sx_inj]; simp
theorem slice_sn (l : List Nat) {i : Int} (h0 : 0 ≤ i) (h1 : i ≤ l.length) : Txt.slice (sx l) (some i) none = sx (l.drop i.toNat) := by
  have := StrLaws.sliceText_from (x := sx l) (i := i) ⟨h0, by rw [sx_cps]; exact h1⟩
  rw [sx_cps] at this
  refine (show Txt.slice (sx l) (some i) none = _ from this).trans ?_
  show sx _ = _
  rw [sx_inj]
  apply List.take_of_length_le
  rw [List.length_drop]; omega
theorem slice_ss (l : List Nat) {i j : Int} (h0 : 0 ≤ i) (h1 : i ≤ j) (h2 : j ≤ l.length) : Txt.slice (sx l) (some i) (some j) = sx ((l.drop i.toNat).take (j - i).toNat) := by
  have := StrLaws.sliceText_plain (x := sx l) (i := i) (j := j) ⟨h0, h1, by rw [sx_cps]; exact h2⟩
  rw [sx_cps] at this
  exact this
theorem size_ok {l : List Nat} (h : l.length ≤ 10000) : (sx l).length ≤ sizeLine := by rw [sx_len, sizeLine_eq]; omega
noncomputable def cs8 : List Nat := [43, 45, 42, 47, 124, 38, 60, 62]
theorem lit_dq : Str.ofString "\"" = sx [34] := by decide +kernel
theorem lit_bs : Str.ofString "\\" = sx [92] := by decide +kernel
theorem lit_e : Str.ofString "" = sx [] := by decide +kernel
theorem lit_dots : Str.ofString "..." = sx [46, 46, 46] := by decide +kernel
theorem lit_8 : Str.ofString "+-*/|&<>" = sx cs8 := by decide +kernel
theorem lit_qbq : Str.ofString "\"\\\"" = sx [34, 92, 34] := by decide +kernel
section
variable {prog : Program} {w : World} {A : Around} {E : Value → Shared → Prop} {s : Shared} {value slice : Expr} {l l' : List Nat} {t u : Tok} {h₀ : Heap} {L : Addr} {m : Str → Option Value} {news : List (Addr × Obj)} {Q : Value → Shared → Prop}
theorem r_len (hl : l.length ≤ 10000) (h : ∀ t' k, Q (.int (l.length : Nat) t') { s with toks := k }) : wpAny (model prog w) A (call (.builtin "len") [.str (sx l) t]) Q E s := by
  refine P.len_str (x := sx l) (by rw [sx_len]; omega) ?_
  rw [sx_len]; exact h _ _
theorem r_item {i : Int} {c : Nat} (h0 : 0 ≤ i) (hl : l.length ≤ 10000) (hc : l[i.toNat]? = some c) (h : ∀ t' k, Q (.str (sx [c]) t') { s with toks := k })
    (hs : subscripted slice false (.str (sx l) t) (.int i u) = operate [.str (sx l) t, .int i u] (getItem (.str (sx l) t) (.int i u)) := by with_unfolding_all rfl)
    (ht : ∀ r, letTemporaryGo value (.str (sx l) t) r = pure () := by intro _; with_unfolding_all rfl) :
    wpAny (model prog w) A (subscriptTail value slice (.str (sx l) t) (.int i u)) Q E s := by
  have hlt : i.toNat < l.length := by
    rcases Nat.lt_or_ge i.toNat l.length with h | h
    · exact h
    · rw [List.getElem?_eq_none h] at hc; cases hc
  have e : Txt.item (sx l) i = sx [c] := by
    show Str.mk #[(Txt.charAt (sx l) i).getD 0] = _
    have : Txt.charAt (sx l) i = some c := by
      unfold Txt.charAt seqIndex?
      rw [sx_len]
      have h1 : ¬ i < 0 := by omega
      have h2 : (decide (0 ≤ i) && decide (i < (l.length : Int))) = true := by
        rw [Bool.and_eq_true]; exact ⟨decide_eq_true h0, decide_eq_true (by omega)⟩
      simp only [h1, if_false]
      simp only [h2, if_true, Option.bind_some]
      simpa [sx] using hc
    rw [this]; rfl
  refine item_str (x := sx l) (by unfold fitsSsize; rw [Bool.not_eq_true', Bool.or_eq_false_iff]; exact ⟨decide_eq_false (by omega), decide_eq_false (by omega)⟩) (by rw [sx_len]; omega) (by rw [sx_len]; omega) (fun _ => ?_) hs ht
  rw [e]; exact h _ _
theorem r_add (hs : l.length + l'.length ≤ 10000) (h : ∀ t' k, Q (.str (sx (l ++ l')) t') { s with toks := k }) : wpAny (model prog w) A (binaryOp .Add (.str (sx l) t) (.str (sx l') u)) Q E s := by
  refine KOpn.add (by rw [sx_len, sx_len]; omega) fun t' k _ => ?_
  rw [sx_app]; exact h t' k
theorem r_ns {j : Int} {uj : Tok} (hF : Fr h₀ L s.heap m) (hN : News h₀ L s.heap news) (h0 : 0 ≤ j) (h1 : j ≤ l.length) (hz : l.length ≤ 10000)
    (h : ∀ h' t' k, Fr h₀ L h' m → News h₀ L h' news → Q (.str (sx (l.take j.toNat)) t') { s with heap := h', toks := k })
    (hs : subscripted slice false (.str (sx l) t) (.ref s.heap.objs.size) = operate [.ref s.heap.objs.size, .str (sx l) t] (getItem (.str (sx l) t) (.ref s.heap.objs.size)) := by with_unfolding_all rfl)
    (ht : ∀ r, letTemporaryGo value (.str (sx l) t) r = pure () := by intro _; with_unfolding_all rfl) :
    wpAny (model prog w) A (subscriptTail value slice (.str (sx l) t) (.ref s.heap.objs.size)) Q E { s with heap := s.heap.push { cls := .type "slice", data := .fields #[.none, .int j uj, .none] } } := by
  refine slice_strN_ns hF hN (fun h' t' k F N => ?_) hs ht (size_ok hz)
  rw [slice_ns l h0 h1]; exact h h' t' k F N
theorem r_sn {i : Int} {ui : Tok} (hF : Fr h₀ L s.heap m) (hN : News h₀ L s.heap news) (h0 : 0 ≤ i) (h1 : i ≤ l.length) (hz : l.length ≤ 10000)
    (h : ∀ h' t' k, Fr h₀ L h' m → News h₀ L h' news → Q (.str (sx (l.drop i.toNat)) t') { s with heap := h', toks := k })
    (hs : subscripted slice false (.str (sx l) t) (.ref s.heap.objs.size) = operate [.ref s.heap.objs.size, .str (sx l) t] (getItem (.str (sx l) t) (.ref s.heap.objs.size)) := by with_unfolding_all rfl)
    (ht : ∀ r, letTemporaryGo value (.str (sx l) t) r = pure () := by intro _; with_unfolding_all rfl) :
    wpAny (model prog w) A (subscriptTail value slice (.str (sx l) t) (.ref s.heap.objs.size)) Q E { s with heap := s.heap.push { cls := .type "slice", data := .fields #[.int i ui, .none, .none] } } := by
  refine slice_strN_sn hF hN (fun h' t' k F N => ?_) hs ht (size_ok hz)
  rw [slice_sn l h0 h1]; exact h h' t' k F N
theorem r_ss {i j : Int} {ui uj : Tok} (hF : Fr h₀ L s.heap m) (hN : News h₀ L s.heap news) (h0 : 0 ≤ i) (h1 : i ≤ j) (h2 : j ≤ l.length) (hz : l.length ≤ 10000)
    (h : ∀ h' t' k, Fr h₀ L h' m → News h₀ L h' news → Q (.str (sx ((l.drop i.toNat).take (j - i).toNat)) t') { s with heap := h', toks := k })
    (hs : subscripted slice false (.str (sx l) t) (.ref s.heap.objs.size) = operate [.ref s.heap.objs.size, .str (sx l) t] (getItem (.str (sx l) t) (.ref s.heap.objs.size)) := by with_unfolding_all rfl)
    (ht : ∀ r, letTemporaryGo value (.str (sx l) t) r = pure () := by intro _; with_unfolding_all rfl) :
    wpAny (model prog w) A (subscriptTail value slice (.str (sx l) t) (.ref s.heap.objs.size)) Q E { s with heap := s.heap.push { cls := .type "slice", data := .fields #[.int i ui, .int j uj, .none] } } := by
  refine slice_strN_ss hF hN (fun h' t' k F N => ?_) hs ht (size_ok hz)
  rw [slice_ss l h0 h1 h2]; exact h h' t' k F N
theorem r_eq (h : Q (.bool (decide (l = l'))) s) : wpAny (model prog w) A (compareOp .Eq (.str (sx l) t) (.str (sx l') u)) Q E s := by
  refine P.eq_str (x := sx l) (y := sx l') ?_
  rw [sx_cps, sx_cps]
  have : (l == l') = decide (l = l') := by
    by_cases e : l = l' <;> simp [e]
  rw [this]; exact h
theorem r_in1 {c : Nat} (h : Q (.bool (decide (c ∈ l))) s) : wpAny (model prog w) A (compareOp .In (.str (sx [c]) u) (.str (sx l) t)) Q E s := by
  refine P.in_str (x := sx l) (y := sx [c]) ?_
  have := StrLaws.found_one (sx l) c
  rw [sx_cps] at this
  have e : (!(Builtin.Str.occurrences (sx l) (sx [c]) 0 (sx l).length 1).isEmpty) = decide (c ∈ l) := this
  rw [e]; exact h
theorem r_notin1 {c : Nat} (h : Q (.bool (!decide (c ∈ l))) s) : wpAny (model prog w) A (compareOp .NotIn (.str (sx [c]) u) (.str (sx l) t)) Q E s := by
  refine P.notIn_str (x := sx l) (y := sx [c]) ?_
  have := StrLaws.found_one (sx l) c
  rw [sx_cps] at this
  have e : (!(Builtin.Str.occurrences (sx l) (sx [c]) 0 (sx l).length 1).isEmpty) = decide (c ∈ l) := this
  rw [e]; exact h
theorem r_const {x : Str} {k : Nat} {pos : Pos} {env : Env} (e : x = sx l) (h : Q (.str (sx l) s.toks) { s with toks := s.toks + 1 }) : wpAny (model prog w) A (eval (.Constant (.str x) k pos) env) Q E s := by
  subst e; exact wpAny_Constant_str h
theorem r_itemD {i : Int} (h0 : 0 ≤ i) (h1 : i < l.length) (hl : l.length ≤ 10000) (h : ∀ t' k, Q (.str (sx [l.getD i.toNat 0]) t') { s with toks := k })
    (hs : subscripted slice false (.str (sx l) t) (.int i u) = operate [.str (sx l) t, .int i u] (getItem (.str (sx l) t) (.int i u)) := by with_unfolding_all rfl)
    (ht : ∀ r, letTemporaryGo value (.str (sx l) t) r = pure () := by intro _; with_unfolding_all rfl) :
    wpAny (model prog w) A (subscriptTail value slice (.str (sx l) t) (.int i u)) Q E s := by
  have hlt : i.toNat < l.length := by omega
  refine r_item h0 hl (List.getElem?_eq_getElem hlt) ?_ hs ht
  have e : l.getD i.toNat 0 = l[i.toNat] := by simp [List.getD, hlt]
  rw [e] at h; exact h
theorem r_modpos {a b : Int} {ta tb : Tok} (hb : 0 < b) (h : ∀ p t k, 0 ≤ p → p < b → Q (.int p t) { s with toks := k }) : wpAny (model prog w) A (binaryOp .Mod (.int a ta) (.int b tb)) Q E s := by
  refine mod_int' (by omega) ?_
  have h1 := Int.fmod_nonneg_of_pos a hb
  have h2 := Int.fmod_lt_of_pos a hb
  exact h _ _ _ h1 h2
end
theorem nn0 (n : Nat) : (0 : Int) ≤ (n : Int) := Int.natCast_nonneg n
theorem z100 {n : Nat} (h : n ≤ 100) : n ≤ 10000 := Nat.le_trans h (by decide)
/-- what is wanted behind, by a letter -/
theorem gen_Q {M : Model} {A : Around} {α : Type} {t : Sem α} {Q : α → Shared → Prop} {E : Value → Shared → Prop} {s : Shared} (h : ∀ Q', Q' = Q → wpAny M A t Q' E s) : wpAny M A t Q E s := h Q rfl

section
variable {M : Model} {A : Around} {R : GenEnd} {Y : Protocol} {n : Nat} {s₀ : Shared} {c : Code} {fs : List Frame} {s : Shared} {env : Env}
  {K : Flow → Sem Fin} {H : Value → Sem Fin} {gd : Bool → Bool} {lv : List Value → List Value}
theorem seg_If {test : Expr} {body orelse : List Stmt} {pos : Pos}
    (h : wpAny M (A.over c fs) (isTrue test env (eval test env)) (fun b s₁ => if b = true then Seg M A R Y n s₀ c ((execs body env).wrap K H gd lv) fs s₁ else Seg M A R Y n s₀ c ((execs orelse env).wrap K H gd lv) fs s₁)
      (fun x s' => Seg M A R Y n s₀ c (H x) fs s') s) :
    Seg M A R Y n s₀ c ((exec (.If test body orelse pos) env).wrap K H gd lv) fs s := by
  rw [exec_If]
  refine seg_at ?_
  show Seg M A R Y n s₀ c ((isTrue test env (eval test env) >>= fun b => if b = true then execs body env else execs orelse env).wrap K H gd lv) fs s
  rw [Sem.bind_eq_wrap', Sem.wrap_wrap]
  refine seg_wrap (wpAny_mono h (fun b s' hb => ?_) fun _ _ x => x)
  cases b with
  | true => exact hb
  | false => exact hb

theorem seg_For {target iter : Expr} {body orelse : List Stmt} {pos : Pos}
    (h : wpAny M (A.over c fs) (eval iter env) (fun x s₁ => wpAny M (A.over c fs) (pyIter x) (fun it s₂ => ∀ p l, Seg M A R Y n s₀ (.forLoop target it body orelse env) (M.den (.forLoop target it body orelse env))
      (.ret (fun r => ((match r with | .ok f => (.pure f : Sem Flow) | .error e => .raise e).onRaise fun (x : Value) => do
        if (← field x 1) == Value.none then unsupported "frame.own-activation:exception-without-traceback"
        setFlight x env.frame).wrap K H gd lv) none (gd false) l c p [] :: fs) s₂) (fun x s' => Seg M A R Y n s₀ c (H x) fs s') s₁) (fun x s' => Seg M A R Y n s₀ c (H x) fs s') s)
    (hs : ∀ x, foldedSetIterable iter env x = pure x := by intro _; rfl) :
    Seg M A R Y n s₀ c ((exec (.For target iter body orelse pos) env).wrap K H gd lv) fs s := by
  rw [exec_For]
  refine seg_at ?_
  show Seg M A R Y n s₀ c ((eval iter env >>= fun x => foldedSetIterable iter env x >>= fun x => (standAt iter.pos >>= fun _ => (holding [x] (pyIter x) >>= fun it => runOwn (.forLoop target it body orelse env) env))).wrap K H gd lv) fs s
  rw [Sem.bind_eq_wrap', Sem.wrap_wrap]
  refine seg_wrap (wpAny_mono h (fun x s₁ h₁ => ?_) fun _ _ x => x)
  rw [hs x]
  show Seg M A R Y n s₀ c (.at iter.pos fun _ => (holding [x] (pyIter x) >>= fun it => runOwn (.forLoop target it body orelse env) env).wrap K H gd lv) fs s₁
  refine seg_at ?_
  rw [Sem.bind_eq_wrap', Sem.wrap_wrap]
  refine seg_wrap (wpAny_holding (wpAny_mono h₁ (fun it s₂ h₂ => ?_) fun _ _ x => x))
  exact seg_call fun p => h₂ p _
end
section
variable {prog : Program} {w : World} {A : Around} {R : GenEnd} {Y : Protocol} {n : Nat} {s₀ : Shared} {fs : List Frame} {s : Shared} {env : Env}
theorem seg_forLoop {target : Expr} {it : Value} {body orelse : List Stmt}
    (h : ∀ E', wpAny (model prog w) (A.over (.forLoop target it body orelse env) fs) (pyNext it) (fun r s₁ => match r with
        | none => Seg (model prog w) A R Y n s₀ (.block orelse env) ((model prog w).den (.block orelse env)) fs s₁
        | some v => ∀ E₂, wpAny (model prog w) (A.over (.forLoop target it body orelse env) fs) (letOwnedTupleGo target it v) (fun _ s₂ => ∀ E₃, wpAny (model prog w) (A.over (.forLoop target it body orelse env) fs) (assign target env v) (fun _ s₃ =>
          Seg (model prog w) A R Y n s₀ (.forLoop target it body orelse env) ((execs body env).wrap (fun f => match f with
            | .next | .cont => .pure (.again (.forLoop target it body orelse env))
            | .brk => .pure (.done .next)
            | .ret v => .pure (.done (.ret v))) (fun e => (do noteFrame e env; theTreesLotGoes e : Sem Unit).wrap (fun _ => .raise e) .raise id id) id id) fs s₃) E₃ s₂) E₂ s₁) E' s) :
    Seg (model prog w) A R Y n s₀ (.forLoop target it body orelse env) ((model prog w).den (.forLoop target it body orelse env)) fs s := by
  show Seg _ A R Y n s₀ _ ((forTurn target it body orelse env).onRaise (fun x => do noteFrame x env; theTreesLotGoes x)) fs s
  unfold forTurn
  rw [Sem.onRaise_eq_wrap]
  refine seg_at ?_
  have HH : ∀ e : Value, (do noteFrame e env; theTreesLotGoes e : Sem Unit).bind (fun _ => (.raise e : Sem Fin)) = (do noteFrame e env; theTreesLotGoes e : Sem Unit).wrap (fun _ => .raise e) .raise id id := fun e => Sem.bind_eq_wrap _ _
  show Seg _ A R Y n s₀ _ (((pyNext it).onRaise (fun _ => standAt { target.pos with line := 0 }) >>= _).wrap _ _ _ _) fs s
  rw [Sem.bind_eq_wrap', Sem.wrap_wrap, Sem.onRaise_eq_wrap, Sem.wrap_wrap]
  refine seg_wrap (wpAny_mono (h _) (fun r s₁ h₁ => ?_) fun x s' hx => hx)
  cases r with
  | none => exact seg_again rfl h₁
  | some v =>
    show Seg _ A R Y n s₀ _ ((letOwnedTupleGo target it v >>= fun _ => (assign target env v >>= fun _ => (execs body env >>= _))).wrap _ _ _ _) fs s₁
    rw [Sem.bind_eq_wrap', Sem.wrap_wrap]
    refine seg_wrap (wpAny_mono (h₁ _) (fun _ s₂ h₂ => ?_) fun x s' hx => hx)
    rw [Sem.bind_eq_wrap', Sem.wrap_wrap]
    refine seg_wrap (wpAny_mono (h₂ _) (fun _ s₃ h₃ => ?_) fun x s' hx => hx)
    rw [Sem.bind_eq_wrap', Sem.wrap_wrap]
    refine Eq.mp ?_ h₃
    congr 1
    exact Sem.wrap_congr _ _ _ (fun f => by cases f <;> rfl) (fun e => (HH e).symm)
end

theorem asg_pair {prog : Program} {w : World} {A : Around} {env : Env} {E : Value → Shared → Prop} {s : Shared} {h₀ : Heap} {L T : Addr} {m : Str → Option Value} {news : List (Addr × Obj)} {a b : Str} {pa pb pos : Pos} {k : Nat} {v1 v2 : Value} {Q : Unit → Shared → Prop}
    (hh : A.handled = none) (hL : env.locals = L) (ha : env.kindOf a = some .local) (hb : env.kindOf b = some .local)
    (hp : (env.scope.kind == .class || (env.scope.kind == .module && env.locals != env.globals)) = false)
    (ht : s.heap.IsTuple T #[v1, v2]) (F : Fr h₀ L s.heap m) (N : News h₀ L s.heap news)
    (h : ∀ h' tk, Fr h₀ L h' (fun y => if y = b then some v2 else if y = a then some v1 else m y) → News h₀ L h' news → Q () { s with heap := h', toks := tk }) :
    wpAny (model prog w) A (assign (.Tuple [.Name a pa, .Name b pb] k pos) env (.ref T)) Q E s := by
  subst hL
  refine wpAny_assign_Tuple hh ht rfl rfl fun h₁ he => ?_
  have F₁ : Fr h₀ env.locals h₁ m := fr_ext F (Nat.ne_of_gt (fresh_lt F)) (fresh_none F) he
  have N₁ : News h₀ env.locals h₁ news := fun p hp => ⟨he p.1 p.2 (Nat.ne_of_lt (Heap.lt_size (N p hp).1)) (N p hp).1, (N p hp).2⟩
  show wpAny _ _ (holding [v2] (assign (.Name a pa) env v1) >>= fun _ => (holding [] (assign (.Name b pb) env v2) >>= fun _ => pure ())) _ _ _
  refine wpAny_bind (wpAny_holding (wpAny_assign_Name (wpAny_storeName_local ha F₁.ns (fun h₂ hn hs => ?_) hp)))
  have F₂ := F₁.set hn hs
  have N₂ := N₁.set hs
  refine wpAny_bind (wpAny_holding (wpAny_assign_Name (wpAny_storeName_local hb F₂.ns (fun h₃ hn hs => wpAny_pure ?_) hp)))
  exact h h₃ _ (F₂.set hn hs) (N₂.set hs)

/-- a heap's part below an address -/
noncomputable def trunc (h : Heap) (L : Nat) : Heap := ⟨h.objs.extract 0 L, h.life⟩
theorem trunc_get {h : Heap} {L b : Nat} {o : Obj} (e : (trunc h L).get? b = some o) : b < L ∧ h.get? b = some o := by
  unfold trunc Heap.get? at e
  have e' := e
  by_cases hb : b < L ∧ b < h.objs.size
  · refine ⟨hb.1, ?_⟩
    have : (h.objs.extract 0 L)[b]? = h.objs[b]? := by
      rw [Array.getElem?_extract]
      simp; omega
    simp only [this] at e
    exact e
  · exfalso
    have : (h.objs.extract 0 L)[b]? = none := by
      rw [Array.getElem?_eq_none]; simp; omega
    simp only [this] at e
    cases e
theorem get_trunc {h : Heap} {L b : Nat} {o : Obj} (hb : b < L) (e : h.get? b = some o) : (trunc h L).get? b = some o := by
  have hs := Heap.lt_size e
  unfold trunc Heap.get?
  unfold Heap.get? at e
  have : (h.objs.extract 0 L)[b]? = h.objs[b]? := by
    rw [Array.getElem?_extract]
    simp; omega
  simp only [this]
  exact e
theorem trunc_size {h : Heap} {L : Nat} (hL : L ≤ h.objs.size) : (trunc h L).objs.size = L := by
  simp [trunc]; omega
theorem fr_trunc {h : Heap} {L : Nat} {m : Str → Option Value} (hn : h.Ns L m) : Fr (trunc h L) L h m :=
  ⟨hn, fun _ _ e => (trunc_get e).2, Nat.le_of_eq (trunc_size (Nat.le_of_lt hn.lt))⟩
theorem news_trunc {h : Heap} {L : Nat} {own : List (Addr × Obj)} (hn : ∀ p ∈ own, h.get? p.1 = some p.2 ∧ L < p.1) : News (trunc h L) L h own :=
  fun p hp => ⟨(hn p hp).1, Nat.ne_of_gt (hn p hp).2, by
    cases e : (trunc h L).get? p.1 with
    | none => rfl
    | some o => exact absurd (trunc_get e).1 (Nat.not_lt.mpr (Nat.le_of_lt (hn p hp).2))⟩

local macro_rules | `(tactic| walk_at "mine:z") => `(tactic| first | exact nn0 _ | exact z100 (by assumption) | omega | (simp <;> omega))
local macro_rules | `(tactic| walk_at "call builtin:len") => `(tactic| ((with_reducible refine r_len ?a ?_); (case a => walk_at "mine:z"); intro t' k'))
local macro_rules | `(tactic| walk_at "subscriptTail Name Name str int") => `(tactic| ((with_reducible refine r_itemD ?a ?b ?c ?_ ?d ?e); (case d => with_unfolding_all rfl); (case e => intro _; with_unfolding_all rfl); (case a => walk_at "mine:z"); (case b => omega); (case c => walk_at "mine:z"); intro t' k'))
local macro_rules | `(tactic| walk_at "subscriptTail Name BinOp str int") => `(tactic| walk_at "subscriptTail Name Name str int")
local macro_rules | `(tactic| walk_at "subscriptTail Name Constant str int") => `(tactic| walk_at "subscriptTail Name Name str int")
local macro_rules | `(tactic| walk_at "binaryOp Add str str") => `(tactic| ((with_reducible refine r_add ?a ?_); (case a => walk_at "mine:z"); intro t' k'))
local macro_rules | `(tactic| walk_at "subscriptTail Name Slice str ref") => `(tactic| ((refine r_ns (s := ⟨_, _, _, _, _⟩) (by assumption) (by assumption) (by walk_at "mine:z") (by walk_at "mine:z") (by walk_at "mine:z") ?_); intro h' t' k' F' N'))
local macro_rules | `(tactic| walk_at "subscriptTail Name Slice str ref") => `(tactic| ((refine r_sn (s := ⟨_, _, _, _, _⟩) (by assumption) (by assumption) (by walk_at "mine:z") (by walk_at "mine:z") (by walk_at "mine:z") ?_); intro h' t' k' F' N'))
local macro_rules | `(tactic| walk_at "subscriptTail Name Slice str ref") => `(tactic| ((refine r_ss (s := ⟨_, _, _, _, _⟩) (by assumption) (by assumption) (by walk_at "mine:z") (by walk_at "mine:z") (by walk_at "mine:z") (by walk_at "mine:z") ?_); intro h' t' k' F' N'))
local macro_rules | `(tactic| walk_at "compareOp Eq str str") => `(tactic| (with_reducible refine r_eq ?_))
local macro_rules | `(tactic| walk_at "compareOp In str str") => `(tactic| (with_reducible refine r_in1 ?_))
local macro_rules | `(tactic| walk_at "compareOp NotIn str str") => `(tactic| (with_reducible refine r_notin1 ?_))
local macro_rules | `(tactic| walk_at "eval Constant str") => `(tactic| with_reducible first | refine r_const lit_dq ?_ | refine r_const lit_bs ?_ | refine r_const lit_e ?_ | refine r_const lit_dots ?_ | refine r_const lit_8 ?_ | refine r_const lit_qbq ?_)
/-- what _iter_escaped_chars yields from place i on -/
noncomputable def yl : Nat → Bool → List Nat → List (Nat × List Nat)
  | i, esc, [] => if esc then [(i - 1, [92])] else []
  | i, esc, c :: r => if esc then (i, [92, c]) :: yl (i + 1) false r else if c = 92 then yl (i + 1) true r else (i, [c]) :: yl (i + 1) false r
noncomputable def Pay (h : Heap) (v : Value) (p : Nat × List Nat) : Prop := ∃ T tk tk', v = .ref T ∧ h.IsTuple T #[.int (p.1 : Nat) tk, .str (sx p.2) tk']
noncomputable def GY (Lg G : Nat) (YS : List (Nat × List Nat)) : Protocol := fun k s₁ v s' kap => ∃ (e it : Nat) (oG oL oe oi : Obj),
   s'.heap.get? G = some oG ∧ s'.heap.get? Lg = some oL ∧ s'.heap.get? e = some oe ∧ s'.heap.get? it = some oi ∧ Lg < e ∧ Lg < it ∧ s₁.heap.get? G = some oG ∧
   (∃ p, YS[YS.length - 1 - k]? = some p ∧ Pay s'.heap v p) ∧ (∀ b o, b < Lg → s₁.heap.get? b = some o → s'.heap.get? b = some o) ∧ s'.gens = s₁.gens ∧ s'.os = s₁.os ∧
   ∀ s'', s''.heap.get? G = some oG → s''.heap.get? Lg = some oL → s''.heap.get? e = some oe → s''.heap.get? it = some oi → kap (.send .none) s''
noncomputable def GR (Lg : Nat) : GenEnd := fun k s₁ r s' => r = .ok (.ret .none) ∧ (k = 0 ∧ (∀ b o, b < Lg → s₁.heap.get? b = some o → s'.heap.get? b = some o) ∧ s'.gens = s₁.gens ∧ s'.os = s₁.os)

abbrev enObj (it : Nat) (i : Int) (old : Value) : Obj := { cls := .type "enumerate", dict := none, data := .fields #[.none, .bool false, .ref it, rawInt i, .none, old], slots := #[] }
theorem yl_at {YS q rest : List (Nat × List Nat)} {p : Nat × List Nat} {k : Nat} (e : YS = q ++ p :: rest) (hk : rest.length = k) : YS[YS.length - 1 - k]? = some p := by
  subst e hk
  have : (q ++ p :: rest).length - 1 - rest.length = q.length := by simp
  rw [this]; simp
theorem pay_of {h : Heap} {D : Addr} {a : Int} {t1 t2 : Tok} {x : Str} {n : Nat} {p : Nat × List Nat} (hg : h.get? D = some { cls := .type "tuple", data := .seq #[.int a t1, .str x t2] n }) (ha : a = (p.1 : Nat)) (hx : x = sx p.2) : Pay h (.ref D) p := by
  subst ha hx
  exact ⟨D, t1, t2, rfl, _, hg, rfl, n, rfl⟩
theorem nin2 {it c : Nat} (h : c < it) : c ∉ ([it + 1, it] : List Nat) := by simp; omega
theorem gen_run {prog : Program} {w : World} {mean mg mb} {A : Around} {cs : List Nat} {t : Tok} {Lg G : Nat} {s₁ : Shared} {oG : Obj} {fd : FuncData} {body : List Stmt}
    (hh : A.handled = none) (hcs : ∀ c ∈ cs, c < 128) (hlen : cs.length ≤ 1000) (hG : Lg < G) (hoG : s₁.heap.get? G = some oG)
    (hns : s₁.heap.Ns Lg (fun x => List.lookup x [(Str.ofString "addr", Value.str (sx cs) t)])) (T : TK w mean mg mb (trunc s₁.heap Lg))
    (hf : (Mine.hd.heap_39 w.params).lookup 21 = some { cls := .type "function", data := .func fd }) (hb : fd.body = .stmts body) :
    Seg (model prog w) A (GR Lg) (GY Lg G (yl 0 false cs)) (yl 0 false cs).length s₁ (.func body (envOf fd.name fd.scope Lg 21 fd.code)) ((model prog w).den (.func body (envOf fd.name fd.scope Lg 21 fd.code))) [] s₁ := by
  have e2 : List.lookup 21 (Mine.hd.heap_39 w.params) = some _ := rfl
  rw [e2] at hf
  cases hf
  cases hb
  have F := fr_trunc hns
  have N : News (trunc s₁.heap Lg) Lg s₁.heap [(G, oG)] := news_trunc (by simp; exact ⟨hoG, hG⟩)
  have TT := T.t
  have KX := T.k
  w_on
  w_top on
  refine seg_func (seg_execs_cons (seg_wrap ?_))
  iterate 3 walk1
  refine seg_execs_cons (seg_wrap ?_)
  iterate 3 walk1
  refine seg_execs_cons (seg_For ?_)
  repeat walk1
  rename Fr _ _ _ _ => F
  rename News _ _ _ _ => N
  refine call_enumerate_str fun h₃ he hit hsz hk => ?_
  refine wpAny_pyIter_enum he ?_
  intro p l
  rename_i hA hB
  have hTop := hns.lt
  have hBz : Lg < hB.objs.size := fresh_lt F
  have F3 : Fr (trunc s₁.heap Lg) Lg h₃ _ := ⟨F.ns.at' fun o e => hk _ o e, fun b o e => hk b o (F.keep b o e), F.above⟩
  have ha : (sx cs).cps.all (· < 128) = true := by
    simp only [sx, List.all_toArray, List.all_eq_true, decide_eq_true_eq]; exact hcs
  have hit' : h₃.IsStrIter hB.objs.size "str_ascii_iterator" (sx cs) t 0 := by
    have e3 : strIterType (sx cs) = "str_ascii_iterator" := by simp only [strIterType, ha, if_true]
    rw [← e3]; exact hit
  obtain ⟨oi, hoi, hsi⟩ := hit'
  have N3 : News (trunc s₁.heap Lg) Lg h₃ [(hB.objs.size + 1, enObj hB.objs.size 0 .none), (hB.objs.size, oi), (G, oG)] := by
    intro q hq
    simp only [List.mem_cons, List.not_mem_nil, or_false] at hq
    rcases hq with rfl | rfl | rfl
    · exact ⟨he, Nat.ne_of_gt (Nat.lt_succ_of_lt hBz), by
        cases e4 : (trunc s₁.heap Lg).get? (hB.objs.size + 1) with
        | none => rfl
        | some o => exact absurd (trunc_get e4).1 (Nat.not_lt.mpr (Nat.le_of_lt (Nat.lt_succ_of_lt hBz)))⟩
    · exact ⟨hoi, Nat.ne_of_gt hBz, by
        cases e4 : (trunc s₁.heap Lg).get? hB.objs.size with
        | none => rfl
        | some o => exact absurd (trunc_get e4).1 (Nat.not_lt.mpr (Nat.le_of_lt hBz))⟩
    · exact ⟨hk _ _ (N _ (.head _)).1, (N _ (.head _)).2⟩
  have hsz' : h₃.objs.size = hB.objs.size + 2 := hsz
  have hGB : G < hB.objs.size := Heap.lt_size (N _ (.head _)).1
  clear hk hsz hit he N
  refine (?key : ∀ (r pre : List Nat) (esc : Bool) (sb s : Shared) (m : Str → Option Value) (old : Value) (oi : Obj), cs = pre ++ r → (∃ q, yl 0 false cs = q ++ yl pre.length esc r) →
      Fr (trunc sb.heap Lg) Lg s.heap m →
      News (trunc sb.heap Lg) Lg s.heap [(hB.objs.size + 1, enObj hB.objs.size pre.length old), (hB.objs.size, oi), (G, oG)] →
      IsSI oi (sx cs) t pre.length → sb.heap.get? G = some oG → m (Str.ofString "escape") = some (.bool esc) → (esc = true → 0 < pre.length ∧ ∃ tp, m (Str.ofString "pos") = some (.int ((pre.length : Int) - 1) tp)) →
      s.gens = sb.gens → s.os = sb.os → Seg (model prog w) A (GR Lg) (GY Lg G (yl 0 false cs)) (yl pre.length esc r).length sb _ _ _ s) cs [] false s₁ _ _ .none oi rfl ⟨[], rfl⟩ F3 N3 hsi hoG rfl (by intro h; cases h) rfl rfl
  clear F F3 N3 hoi hsi oi hsz' hns TT T hTop e2
  have hsz : (sx cs).cps.size = cs.length := by simp [sx]
  have hA0 : ∀ c fs, (A.over c fs).in1.handled = none → True := fun _ _ _ => trivial
  generalize hB.objs.size = it at *
  intro r
  induction r with
  | nil =>
    intro pre esc sb s m old oi hce hq F N hsi hG' hesc hpos hg ho
    refine seg_forLoop fun E' => ?_
    have hst : (∃ old, IsEnum s.heap (it + 1) it pre.length old) ∧ s.heap.IsStrIter it "str_ascii_iterator" (sx cs) t pre.length := ⟨⟨old, (N _ (.head _)).1⟩, ⟨oi, (N _ (.tail _ (.head _))).1, hsi⟩⟩
    have hpl : pre.length = (sx cs).cps.size := by rw [hsz, hce]; simp
    rw [hpl] at hst
    refine (WalksT.enumerateD (Draws.strAscii (by exact hh) it (sx cs) t) (it + 1) (Nat.succ_ne_self _) (by simp) (by simp)).done _ _ _ hst fun h' tk hk => ?_
    have F' : Fr (trunc sb.heap Lg) Lg h' m := ⟨F.ns.at' fun o e => hk _ o (nin2 hBz) e, fun b o e => hk b o (nin2 (Nat.lt_trans (trunc_get e).1 hBz)) (F.keep b o e), F.above⟩
    have hGh' : h'.get? G = some oG := hk G oG (nin2 hGB) (N _ (.tail _ (.tail _ (.head _)))).1
    clear N F hk hst
    refine seg_leaf (.ok .next) ?_
    show Seg _ _ _ _ _ _ _ ((execs _ _).wrap _ _ _ _) _ _
    refine seg_execs_cons (seg_If ?_)
    have N : News (trunc sb.heap Lg) Lg h' [(G, oG)] := by
      intro q hq
      rcases List.mem_singleton.mp hq with rfl
      exact ⟨hGh', Nat.ne_of_gt hG, by
        cases e4 : (trunc sb.heap Lg).get? G with
        | none => rfl
        | some o => exact absurd (trunc_get e4).1 (Nat.not_lt.mpr (Nat.le_of_lt hG))⟩
    cases esc with
    | false =>
      rw [norm1 hesc] at F'
      iterate 4 walk1
      refine seg_execs_nil (seg_execs_nil (seg_end (.ok (.ret .none)) ?_))
      exact ⟨rfl, rfl, fun b o hb e => F'.keep b o (get_trunc hb e), hg, ho⟩
    | true =>
      obtain ⟨hp0, tp, hpos⟩ := hpos rfl
      rw [norm2 hesc hpos] at F'
      iterate 4 walk1
      have e1 : (yl pre.length true []).length = 0 + 1 := rfl
      rw [e1]
      refine seg_execs_cons (seg_Expr_Yield rfl rfl rfl ?_)
      iterate 9 walk1
      rename_i D h5 F5 N5 l1 kap hkap
      obtain ⟨oL, _, _, hoL, _⟩ := id F5.ns
      have hG5 := (N5 _ (.tail _ (.head _))).1
      obtain ⟨q, hq⟩ := hq
      have hi1 : (pre.length : Int) - 1 = ((pre.length - 1 : Nat) : Int) := by omega
      refine ⟨G, G, oG, oL, oG, oG, hG5, hoL, hG5, hG5, hG, hG, hG', ⟨(pre.length - 1, [92]), yl_at hq rfl, pay_of (N5 _ (.head _)).1 hi1 rfl⟩, fun b o hb e => F5.keep b o (get_trunc hb e), hg, ho, fun s'' h1 h2 h3 h4 => hkap .none s'' ?_⟩
      · refine seg_execs_nil (seg_execs_nil (seg_end (.ok (.ret .none)) ?_))
        exact ⟨rfl, rfl, fun b o hb e => e, rfl, rfl⟩
  | cons c r ih =>
    intro pre esc sb s m old oi hce hq F N hsi hG' hesc hpos hg ho
    refine seg_forLoop fun E' => ?_
    have hst : (∃ old, IsEnum s.heap (it + 1) it pre.length old) ∧ s.heap.IsStrIter it "str_ascii_iterator" (sx cs) t pre.length := ⟨⟨old, (N _ (.head _)).1⟩, ⟨oi, (N _ (.tail _ (.head _))).1, hsi⟩⟩
    have hpl : pre.length < (sx cs).cps.size := by rw [hsz, hce]; simp
    refine (WalksT.enumerateD (Draws.strAscii (by exact hh) it (sx cs) t) (it + 1) (Nat.succ_ne_self _) (by simp) (by simp)).item pre.length _ _ _ hpl hst fun T vals h1 tk1 hP hle hT hMid hk1 => ?_
    obtain ⟨ti, x, ⟨cc, u, hcc, rfl⟩, rfl⟩ := hP
    have hcc' : cc = c := by
      have e5 : (sx cs).cps[pre.length]? = some c := by rw [hce]; simp [sx]
      rw [e5] at hcc; exact (Option.some.inj hcc).symm
    subst hcc'
    intro E₂
    refine (WalksT.enumerateD (Draws.strAscii (by exact hh) it (sx cs) t) (it + 1) (Nat.succ_ne_self _) (by simp) (by simp)).go _ _ _ pre.length T _ _ _ hMid fun h2 hst2 hk2 => ?_
    intro E₃
    obtain ⟨⟨old2, he2⟩, oi2, hoi2, hsi2⟩ := hst2
    have hT2 : h2.IsTuple T _ := hT.at fun o e => hk2 T o (by simp; exact ⟨hMid.2.2.1, hMid.2.2.2⟩) e
    have F2 : Fr (trunc sb.heap Lg) Lg h2 m := ⟨F.ns.at' fun o e => hk2 _ o (nin2 hBz) (hk1 _ o (nin2 hBz) e), fun b o e => hk2 b o (nin2 (Nat.lt_trans (trunc_get e).1 hBz)) (hk1 b o (nin2 (Nat.lt_trans (trunc_get e).1 hBz)) (F.keep b o e)), F.above⟩
    have hG2 : h2.get? G = some oG := hk2 G oG (nin2 hGB) (hk1 G oG (nin2 hGB) (N _ (.tail _ (.tail _ (.head _)))).1)
    have N2 : News (trunc sb.heap Lg) Lg h2 [(it + 1, enObj it ((pre.length + 1 : Nat) : Int) old2), (it, oi2), (G, oG)] := by
      intro q hq
      simp only [List.mem_cons, List.not_mem_nil, or_false] at hq
      rcases hq with rfl | rfl | rfl
      · exact ⟨he2, (N _ (.head _)).2⟩
      · exact ⟨hoi2, (N _ (.tail _ (.head _))).2⟩
      · exact ⟨hG2, (N _ (.tail _ (.tail _ (.head _)))).2⟩
    clear F N hk1 hk2 hst hMid hT he2 hoi2
    refine asg_pair (L := Lg) (v2 := .str (sx [cc]) u) (by exact hh) rfl rfl rfl rfl hT2 F2 N2 fun h3 tk3 F3 N3 => ?_
    clear F2 N2 hT2
    have hlen1 : (pre ++ [cc]).length = pre.length + 1 := by simp
    have hce1 : cs = (pre ++ [cc]) ++ r := by rw [hce]; simp
    obtain ⟨q, hq⟩ := hq
    refine seg_execs_cons (seg_If ?_)
    cases esc with
    | true =>
      have eY : yl pre.length true (cc :: r) = (pre.length, [92, cc]) :: yl (pre.length + 1) false r := rfl
      rw [eY] at hq ⊢
      rw [norm1 hesc] at F3
      iterate 4 walk1
      refine seg_execs_cons (seg_Expr_Yield (n := (yl (pre.length + 1) false r).length) rfl rfl rfl ?_)
      iterate 12 walk1
      rename_i D h5 F5 N5 l1 kap hkap
      obtain ⟨oL, _, _, hoL, _⟩ := id F5.ns
      refine ⟨it + 1, it, oG, oL, _, oi2, (N5 _ (.tail _ (.tail _ (.tail _ (.head _))))).1, hoL, (N5 _ (.tail _ (.head _))).1, (N5 _ (.tail _ (.tail _ (.head _)))).1, Nat.lt_succ_of_lt hBz, hBz, hG', ⟨(pre.length, [92, cc]), yl_at hq rfl, pay_of (N5 _ (.head _)).1 rfl rfl⟩,
        fun b o hb e => F5.keep b o (get_trunc hb e), hg, ho, fun s'' g1 g2 g3 g4 => hkap .none s'' ?_⟩
      have F6 : Fr (trunc s''.heap Lg) Lg s''.heap _ := fr_trunc (F5.ns.at' fun o e => by rw [hoL] at e; cases e; exact g2)
      have N6 : News (trunc s''.heap Lg) Lg s''.heap [(it + 1, enObj it ((pre.length + 1 : Nat) : Int) old2), (it, oi2), (G, oG)] := news_trunc (by
        intro q hq
        simp only [List.mem_cons, List.not_mem_nil, or_false] at hq
        rcases hq with rfl | rfl | rfl
        · exact ⟨g3, Nat.lt_succ_of_lt hBz⟩
        · exact ⟨g4, hBz⟩
        · exact ⟨g1, hG⟩)
      refine seg_execs_cons (seg_wrap ?_)
      iterate 3 walk1
      refine seg_execs_nil (seg_execs_nil (seg_again rfl ?_))
      rw [← hlen1] at hsi2 hq ⊢
      refine ih (pre ++ [cc]) false s'' _ _ old2 oi2 hce1 ⟨q ++ [(pre.length, [92, cc])], by rw [hq]; simp⟩ (by assumption) ?_ hsi2 g1 rfl (by intro h; cases h) rfl rfl
      rw [hlen1]; assumption
    | false =>
      rw [norm1 hesc] at F3
      iterate 4 walk1
      refine seg_execs_cons (seg_If ?_)
      by_cases h92 : cc = 92
      · subst h92
        have eY : yl pre.length false (92 :: r) = yl (pre.length + 1) true r := by simp [yl]
        rw [eY] at hq ⊢
        iterate 6 walk1
        refine seg_execs_cons (seg_wrap ?_)
        iterate 3 walk1
        refine seg_execs_nil (seg_execs_nil (seg_execs_nil (seg_again rfl ?_)))
        rw [← hlen1] at hsi2 hq ⊢
        refine ih (pre ++ [92]) true sb _ _ old2 oi2 hce1 ⟨q, hq⟩ (by assumption) ?_ hsi2 hG' rfl (fun _ => ⟨by rw [hlen1]; omega, ti, ?_⟩) hg ho
        · rw [hlen1]; assumption
        · have e7 : ((pre ++ [92]).length : Int) - 1 = (pre.length : Int) := by rw [hlen1]; omega
          rw [e7]; rfl
      · have eY : yl pre.length false (cc :: r) = (pre.length, [cc]) :: yl (pre.length + 1) false r := by simp [yl, h92]
        rw [eY] at hq ⊢
        have hd : decide ([cc] = [92]) = false := by simp [h92]
        iterate 6 walk1
        refine seg_execs_cons (seg_Expr_Yield (n := (yl (pre.length + 1) false r).length) rfl rfl rfl ?_)
        repeat walk1
        rename_i D h5 F5 N5 l1 kap hkap
        obtain ⟨oL, _, _, hoL, _⟩ := id F5.ns
        refine ⟨it + 1, it, oG, oL, _, oi2, (N5 _ (.tail _ (.tail _ (.tail _ (.head _))))).1, hoL, (N5 _ (.tail _ (.head _))).1, (N5 _ (.tail _ (.tail _ (.head _)))).1, Nat.lt_succ_of_lt hBz, hBz, hG', ⟨(pre.length, [cc]), yl_at hq rfl, pay_of (N5 _ (.head _)).1 rfl rfl⟩,
          fun b o hb e => F5.keep b o (get_trunc hb e), hg, ho, fun s'' g1 g2 g3 g4 => hkap .none s'' ?_⟩
        have F6 : Fr (trunc s''.heap Lg) Lg s''.heap _ := fr_trunc (F5.ns.at' fun o e => by rw [hoL] at e; cases e; exact g2)
        have N6 : News (trunc s''.heap Lg) Lg s''.heap [(it + 1, enObj it ((pre.length + 1 : Nat) : Int) old2), (it, oi2), (G, oG)] := news_trunc (by
          intro q hq
          simp only [List.mem_cons, List.not_mem_nil, or_false] at hq
          rcases hq with rfl | rfl | rfl
          · exact ⟨g3, Nat.lt_succ_of_lt hBz⟩
          · exact ⟨g4, hBz⟩
          · exact ⟨g1, hG⟩)
        refine seg_execs_nil (seg_execs_nil (seg_execs_nil (seg_again rfl ?_)))
        rw [← hlen1] at hsi2 hq ⊢
        refine ih (pre ++ [cc]) false s'' _ _ old2 oi2 hce1 ⟨q ++ [(pre.length, [cc])], by rw [hq]; simp⟩ F6 ?_ hsi2 g1 rfl (by intro h; cases h) rfl rfl
        rw [hlen1]; exact N6

noncomputable def IsGO (o : Obj) (g : Nat) : Prop := ∃ nm qn, o.cls = .type "generator" ∧ o.data = .fields #[.int g 0, nm, qn] ∧ o.slots = #[]
theorem gen_make {prog : Program} {w : World} {mean mg mb} {A : Around} {s : Shared} {Q E : Value → Shared → Prop} {x : Str} {t : Tok} {h₀ : Heap} {L : Addr} {m : Str → Option Value} {news : List (Addr × Obj)}
   (hd : A.depth < 900) (T : TK w mean mg mb s.heap) (F : Fr h₀ L s.heap m) (N : News h₀ L s.heap news)
   (h : ∀ (Lg G : Nat) h' tk oL oG fd body, (Mine.hd.heap_39 w.params).lookup 21 = some { cls := .type "function", data := .func fd } → fd.body = .stmts body →
      h'.Ns Lg (fun y => List.lookup y [(Str.ofString "addr", Value.str x t)]) → h'.get? Lg = some oL → IsGO oG s.gens.size → Lg < G → (∀ p ∈ news, p.1 < Lg) → L < Lg →
      Fr h₀ L h' m → News h₀ L h' ((G, oG) :: (Lg, oL) :: news) → Q (.ref G) { s with heap := h', toks := tk, gens := s.gens.push (.fresh (.func body (envOf fd.name fd.scope Lg 21 fd.code))) }) :
   wpAny (model prog w) A (call (.ref 21) [.str x t]) Q E s := by
  have ho := T.k 21 _ rfl
  have h2 := T.k 20 _ rfl
  refine wpAny_call (codeAny_call_generator (by simp only [recursionLimit]; omega) ho rfl rfl rfl rfl ⟨_, _, _, _, rfl, h2, rfl, rfl⟩ ?_)
  refine (wpAny_of_eq (a := [(Str.ofString "addr", Value.str x t)]) rfl ?_)
  refine wpAny_newFunctionEnv (by decide) (by simp) (fun h₁ hns hsb => ⟨T.t.nolimit.fresh _ hsb, ?_⟩) rfl
  have hk : ∀ b o, s.heap.get? b = some o → h₁.get? b = some o := fun b o e => hsb.extBut b o (Nat.ne_of_lt (Heap.lt_size e)) (Heap.get?_push_of_some _ e)
  obtain ⟨oL, es, ep, hoL, hrest⟩ := id hns
  have hz : h₁.objs.size = s.heap.objs.size + 1 := by rw [hsb.1, Heap.size_push]
  have F1 : Fr h₀ L h₁ m := ⟨F.ns.at' fun o e => hk _ o e, fun b o e => hk b o (F.keep b o e), F.above⟩
  have N1 : News h₀ L h₁ ((s.heap.objs.size, oL) :: news) := by
    intro p hp
    rcases List.mem_cons.mp hp with rfl | hp
    · exact ⟨hoL, Nat.ne_of_gt (fresh_lt F), fresh_none F⟩
    · exact ⟨hk _ _ (N p hp).1, (N p hp).2⟩
  have N2 := news_push F1 N1 { cls := .type "generator", data := .fields #[.int (s.gens.size : Nat) 0, .str (Str.ofString "_iter_escaped_chars") (s.toks + 1), .str (Str.ofString "_iter_escaped_chars") (s.toks + 1 + 1)] } rfl
  refine h s.heap.objs.size h₁.objs.size _ _ oL _ _ _ rfl rfl (hns.push _) (Heap.get?_push_of_some _ hoL) ⟨_, _, rfl, rfl, rfl⟩ (by rw [hz]; exact Nat.lt_succ_self _) (fun p hp => Heap.lt_size (N p hp).1) (fresh_lt F) (F1.push _) N2.1
abbrev SS := Nat × Option Nat × List (List Nat)
noncomputable def stp (cs : List Nat) (st : SS) (y : Nat × List Nat) : SS :=
  if y.2 = [34] then match st.2.1 with
    | none => (st.1, some y.1, st.2.2)
    | some o => (y.1 + 1, none, if st.1 = o then st.2.2 else st.2.2 ++ [(cs.drop st.1).take (o - st.1)])
  else st
noncomputable def okS (cs : List Nat) : SS → List (Nat × List Nat) → Prop
  | _, [] => True
  | st, y :: ys => (∀ o, st.2.1 = some o → st.1 ≤ o ∧ o ≤ cs.length) ∧ okS cs (stp cs st y) ys
noncomputable def stripE (cs : List Nat) (st : SS) : List Nat := (if st.1 < cs.length then st.2.2 ++ [cs.drop st.1] else st.2.2).flatten
noncomputable def stripF (cs : List Nat) : List Nat := if 34 ∈ cs then stripE cs ((yl 0 false cs).foldl (stp cs) (0, none, [])) else cs
theorem okS_yl (cs : List Nat) : ∀ (r : List Nat) (i : Nat) (esc : Bool) (st : SS), i + r.length = cs.length → st.1 ≤ i → (∀ o, st.2.1 = some o → st.1 ≤ o ∧ o < i) → okS cs st (yl i esc r) := by
  intro r
  induction r with
  | nil =>
    intro i esc st hi h1 h2
    cases esc with
    | false => exact trivial
    | true => exact ⟨fun o ho => ⟨(h2 o ho).1, by have := (h2 o ho).2; simp at hi; omega⟩, trivial⟩
  | cons c r ih =>
    intro i esc st hi h1 h2
    have hi' : i + 1 + r.length = cs.length := by simp at hi; omega
    have h0 : ∀ o, st.2.1 = some o → st.1 ≤ o ∧ o ≤ cs.length := fun o ho => ⟨(h2 o ho).1, by have := (h2 o ho).2; omega⟩
    have hstp : ∀ y : Nat × List Nat, y.1 = i → (stp cs st y).1 ≤ i + 1 ∧ ∀ o, (stp cs st y).2.1 = some o → (stp cs st y).1 ≤ o ∧ o < i + 1 := by
      intro y hy
      unfold stp
      split
      · split
        · exact ⟨by simp; omega, fun o ho => by simp at ho; subst ho; simp; omega⟩
        · exact ⟨by simp; omega, fun o ho => by simp at ho⟩
      · exact ⟨by omega, fun o ho => ⟨(h2 o ho).1, by have := (h2 o ho).2; omega⟩⟩
    cases esc with
    | true =>
      have eY : yl i true (c :: r) = (i, [92, c]) :: yl (i + 1) false r := rfl
      rw [eY]
      exact ⟨h0, ih (i + 1) false _ hi' (hstp _ rfl).1 (hstp _ rfl).2⟩
    | false =>
      by_cases h92 : c = 92
      · have eY : yl i false (c :: r) = yl (i + 1) true r := by simp [yl, h92]
        rw [eY]
        exact ih (i + 1) true st hi' (by omega) fun o ho => ⟨(h2 o ho).1, by have := (h2 o ho).2; omega⟩
      · have eY : yl i false (c :: r) = (i, [c]) :: yl (i + 1) false r := by simp [yl, h92]
        rw [eY]
        exact ⟨h0, ih (i + 1) false _ hi' (hstp _ rfl).1 (hstp _ rfl).2⟩
theorem yl_len : ∀ (r : List Nat) (i : Nat) (esc : Bool), (yl i esc r).length ≤ r.length + 1 := by
  intro r
  induction r with
  | nil => intro i esc; cases esc <;> simp [yl]
  | cons c r ih =>
    intro i esc
    cases esc with
    | true => have := ih (i + 1) false; simp [yl]; omega
    | false =>
      by_cases h92 : c = 92
      · have := ih (i + 1) true; simp [yl, h92]; omega
      · have := ih (i + 1) false; simp [yl, h92]; omega

noncomputable def opV : Option Nat → Tok → Value
  | none, _ => .none
  | some o, t => .int (o : Nat) t

theorem rs_push (g : Array GenState) (os : OsState) : Rs g os (g.push .finished) os := by
  refine ⟨rfl, by simp, fun i hi => by rw [Array.getElem?_push_lt hi]; simp [hi], fun h y hy => ?_⟩
  rcases Array.mem_push.mp hy with hy | rfl
  · exact h y hy
  · rfl
theorem str_join_e : ∀ (ls : List (List Nat)), Str.join (sx []) (ls.map sx) = sx ls.flatten
  | [] => rfl
  | [x] => by show sx x = _; simp
  | x :: y :: r => by
    show sx x ++ sx [] ++ Str.join (sx []) ((y :: r).map sx) = _
    rw [str_join_e (y :: r), sx_app, sx_app]
    simp
theorem sum_le : ∀ (ls : List (List Nat)), (∀ l ∈ ls, l.length ≤ 100) → (((ls.map sx).map (·.length)).sum) ≤ 100 * ls.length
  | [], _ => by simp
  | x :: r, h => by
    have h1 := sum_le r fun l hl => h l (.tail _ hl)
    have h2 := h x (.head _)
    simp only [List.map_cons, List.sum_cons, List.length_cons, sx_len] at h1 ⊢
    omega
theorem r_join {prog : Program} {w : World} {A : Around} {E : Value → Shared → Prop} {s : Shared} {D : Addr} {vs : List Value} {ls : List (List Nat)} {t : Tok} {Q : Value → Shared → Prop}
    (hl : s.heap.IsList D vs.toArray) (hi : StrsAre vs (ls.map sx)) (hn : ls.length ≤ 1000) (hb : ∀ l ∈ ls, l.length ≤ 100) (h : ∀ t' k, Q (.str (sx ls.flatten) t') { s with toks := k }) :
    wpAny (model prog w) A (call (.builtin "str.join") [.str (sx []) t, .ref D]) Q E s := by
  refine join_listW hl (by simpa using hi) (by rw [sx_len]; simp) ?_ fun t' k => ?_
  · have := sum_le ls hb
    rw [List.length_map]
    omega
  · have e : Txt.join (sx []) (ls.map sx) = sx ls.flatten := (eq_of_beq (join_plain_closes _ _)).trans (str_join_e ls)
    rw [e]; exact h t' k
theorem letgo_gen {prog : Program} {w : World} {A : Around} {E : Value → Shared → Prop} {s : Shared} {elts : List Expr} {k : Nat} {pos : Pos} {G T : Addr} {oG : Obj} {g : Nat} {Q : Unit → Shared → Prop}
    (hG : s.heap.get? G = some oG) (hO : IsGO oG g) (h : Q () s) : wpAny (model prog w) A (letOwnedTupleGo (.Tuple elts k pos) (.ref G) (.ref T)) Q E s := by
  obtain ⟨nm, qn, h5, h6, h7⟩ := hO
  unfold letOwnedTupleGo
  refine wpAny_bind (wpAny_load hG ?_)
  rw [h5, h6]
  show wpAny _ _ (if (["enumerate", "zip", "dict_itemiterator", "dict_reverseitemiterator", "odict_iterator", "itertools.zip_longest", "itertools.pairwise"].contains "generator" && _) = true then _ else _) _ _ _
  rw [if_neg (by rw [show (["enumerate", "zip", "dict_itemiterator", "dict_reverseitemiterator", "odict_iterator", "itertools.zip_longest", "itertools.pairwise"].contains "generator") = false from by decide]; simp)]
  exact wpAny_pure h
theorem push_set {α : Type} (a : Array α) (x y : α) : (a.push x).setIfInBounds a.size y = a.push y := by
  apply Array.ext'
  simp
noncomputable def SJ (prog : Program) (w : World) (s : Shared) (B : Around) (cs : List Nat) (t : Tok) (D Lg G : Nat) (k : Nat) (s₁ : Shared) : Prop := ∃ (gs : GenState) (m : Str → Option Value) (oG oL oe oi : Obj) (e it : Nat) (vs : List Value) (nn : Nat) (st : SS) (t1 t2 : Tok),
      s₁.gens = s.gens.push gs ∧ s₁.os = s.os ∧ Fr s.heap s.heap.objs.size s₁.heap m ∧ News s.heap s.heap.objs.size s₁.heap [(D, listOf vs.toArray nn), (G, oG), (Lg, oL), (e, oe), (it, oi)] ∧ IsGO oG s.gens.size ∧ Lg < e ∧ Lg < it ∧
      (∀ s'' : Shared, (∀ b o, s.heap.get? b = some o → s''.heap.get? b = some o) → s''.heap.get? G = some oG → s''.heap.get? Lg = some oL → s''.heap.get? e = some oe → s''.heap.get? it = some oi →
        gs.Goes (model prog w) B.in1 (GR Lg) (GY Lg G (yl 0 false cs)) ((yl 0 false cs).length - k) (.send .none) s'') ∧
      m (Str.ofString "addr") = some (.str (sx cs) t) ∧ m (Str.ofString "start") = some (.int (st.1 : Nat) t1) ∧ m (Str.ofString "open_pos") = some (opV st.2.1 t2) ∧ m (Str.ofString "result") = some (.ref D) ∧
      StrsAre vs (st.2.2.map sx) ∧ st = ((yl 0 false cs).take k).foldl (stp cs) (0, none, []) ∧ okS cs st ((yl 0 false cs).drop k) ∧ st.2.2.length ≤ k ∧ ∀ l ∈ st.2.2, l.length ≤ 100
theorem strip_call {prog : Program} {w : World} {mean mg mb} {A : Around} {s : Shared} {Q E : Value → Shared → Prop} {cs : List Nat} {t : Tok}
   (hd : A.depth < 890) (hh : A.handled = none) (T : TK w mean mg mb s.heap) (hcs : ∀ c ∈ cs, c < 128) (hlen : cs.length ≤ 100)
   (h : ∀ t s', Kp s s' → Q (.str (sx (stripF cs)) t) s') :
   wpAny (model prog w) A (call (.ref 28) [.str (sx cs) t]) Q E s := by
  have ho := T.k 28 _ rfl
  refine wpAny_call (call_plain_ret (binds := [(Str.ofString "addr", .str (sx cs) t)]) (by simp only [recursionLimit]; omega) ho rfl T.t.nolimit ?_ rfl (by simp) ?_)
  · have h2 := T.k 27 _ rfl
    exact ⟨_, _, _, _, rfl, h2, rfl, rfl⟩
  intro h₁ F
  have TT := T.t
  have KX := T.k
  have R0 := Rs.refl s.gens s.os
  have N : News s.heap s.heap.objs.size h₁ [] := News.nil
  clear ho
  w_on
  w_top on
  refine gen_Q fun QT hQT => ?_
  by_cases h34 : 34 ∈ cs
  · have hdec : decide (34 ∈ cs) = true := decide_eq_true h34
    have eF : stripF cs = stripE cs ((yl 0 false cs).foldl (stp cs) (0, none, [])) := if_pos h34
    repeat ((fail_if_success (with_reducible show wpAny _ _ (exec (Stmt.For _ _ _ _ _) _) _ _ _)); walk1)
    refine wpAny_For ?_
    repeat ((fail_if_success (with_reducible show wpAny _ _ (call (Value.ref 21) _) _ _ _)); walk1)
    rename_i D _ _ hC F N
    refine gen_make (by show A.depth + 1 < 900; omega) (T.keeps F.keep) F N ?_
    intro Lg G h₃ tk3 oL oG fd body hfd hbody hns hoL hGO hLG hDlt hLL F3 N3
    have hDLg : D < Lg := hDlt _ (.head _)
    clear F N hDlt
    refine wpAny_pyIter_gen (g := s.gens.size) ?_ ?_
    · obtain ⟨nm, qn, h5, h6, h7⟩ := hGO
      exact ⟨oG, nm, qn, (N3 _ (.head _)).1, h5, h6, h7⟩
    refine (?key : ∀ B : Around, B.handled = none → B.depth < 900 → codeAny (model prog w) B _ _ _) _ hh (by show A.depth + 1 < 900; omega)
    intro B hB hBd
    refine for_genR (n := (yl 0 false cs).length) (SJ prog w s B cs t D Lg G) ?_ ?_ ?_
    · refine ⟨_, _, oG, oL, oG, oG, G, G, [], 0, (0, none, []), _, 0, rfl, rfl, F3, ?_, hGO, hLG, hLG, ?_, rfl, rfl, rfl, rfl, .nil, rfl, ?_, by simp, by simp⟩
      · intro p hp
        simp only [List.mem_cons, List.not_mem_nil, or_false] at hp
        rcases hp with rfl | rfl | rfl | rfl | rfl
        · exact N3 _ (.tail _ (.tail _ (.head _)))
        · exact N3 _ (.head _)
        · exact N3 _ (.tail _ (.head _))
        · exact N3 _ (.head _)
        · exact N3 _ (.head _)
      · intro s'' hk g1 g2 g3 g4
        exact ⟨rfl, gen_run (oG := oG) hB hcs (by omega) hLG g1 (hns.at' fun o e => by rw [hoL] at e; cases e; exact g2) (T.keeps fun b o e => get_trunc (Nat.lt_trans (Heap.lt_size e) hLL) (hk b o e)) hfd hbody⟩
      · exact okS_yl cs cs 0 false _ (by simp) (by simp) (by simp)
    · rintro E' k s₁ hk ⟨gs, m, oG, oL, oe, oi, e, it, vs, nn, st, t1, t2, hgens, hos, F, N, hGO, hLe, hLit, hgo, hm1, hm2, hm3, hm4, hvs, hst, hok, hvl, hpl⟩
      obtain ⟨m', hm'⟩ : ∃ m', (yl 0 false cs).length - k = m' + 1 := ⟨(yl 0 false cs).length - k - 1, by omega⟩
      have hgs : s₁.gens[s.gens.size]? = some gs := by rw [hgens]; simp
      have hGen : s₁.heap.IsGen G s.gens.size := by
        obtain ⟨nm, qn, h5, h6, h7⟩ := id hGO
        exact ⟨oG, nm, qn, (N _ (.tail _ (.head _))).1, h5, h6, h7⟩
      have hgo1 := hgo (s₁.setGen s.gens.size .running) F.keep (N _ (.tail _ (.head _))).1 (N _ (.tail _ (.tail _ (.head _)))).1 (N _ (.tail _ (.tail _ (.tail _ (.head _))))).1 (N _ (.tail _ (.tail _ (.tail _ (.tail _ (.head _)))))).1
      rw [hm'] at hgo1
      refine wpAny_pyNext_gen (n := m' + 1) hB ((T.keeps F.keep).t.nolimit) (by simp only [recursionLimit]; omega) hGen hgs hgo1 ?_ ?_
      · intro v s₂ gs' hy
        obtain ⟨e', it', oG', oL', oe', oi', g1, g2, g3, g4, g5, g6, g7, ⟨p, hp, Tt, tk', tk'', rfl, hTup⟩, hkeep, hg2, ho2, hcont⟩ := hy
        have hoo : oG' = oG := by
          have h9 := (N _ (.tail _ (.head _))).1
          exact Option.some.inj (g7.symm.trans h9)
        subst hoo
        have hidx : (yl 0 false cs)[k]? = some p := by
          have e9 : (yl 0 false cs).length - 1 - (m' + 1 - 1) = k := by omega
          rw [e9] at hp; exact hp
        obtain ⟨hkl, hkp⟩ := List.getElem?_eq_some_iff.mp hidx
        have hfold : stp cs st p = ((yl 0 false cs).take (k + 1)).foldl (stp cs) (0, none, []) := by
          rw [List.take_add_one, hidx, hst]; simp
        have hdrop : (yl 0 false cs).drop k = p :: (yl 0 false cs).drop (k + 1) := by rw [List.drop_eq_getElem_cons hkl, hkp]
        rw [hdrop] at hok
        obtain ⟨hop, hok'⟩ := hok
        have F2 : Fr s.heap s.heap.objs.size s₂.heap m := ⟨F.ns.at' fun o e => hkeep _ o hLL e, fun b o e => hkeep b o (Nat.lt_trans (Heap.lt_size e) hLL) (F.keep b o e), F.above⟩
        have hnone : ∀ b : Nat, Lg ≤ b → s.heap.get? b = none := fun b hb => Heap.get?_none_of_le (Nat.le_of_lt (Nat.lt_of_lt_of_le hLL hb))
        have N2 : News s.heap s.heap.objs.size s₂.heap [(D, listOf vs.toArray nn), (G, oG'), (Lg, oL'), (e', oe'), (it', oi')] := by
          intro q hq
          simp only [List.mem_cons, List.not_mem_nil, or_false] at hq
          rcases hq with rfl | rfl | rfl | rfl | rfl
          · exact ⟨hkeep _ _ hDLg (N _ (.head _)).1, (N _ (.head _)).2⟩
          · exact ⟨g1, (N _ (.tail _ (.head _))).2⟩
          · exact ⟨g2, Nat.ne_of_gt hLL, hnone _ (Nat.le_refl _)⟩
          · exact ⟨g3, Nat.ne_of_gt (Nat.lt_trans hLL g5), hnone _ (Nat.le_of_lt g5)⟩
          · exact ⟨g4, Nat.ne_of_gt (Nat.lt_trans hLL g6), hnone _ (Nat.le_of_lt g6)⟩
        have hgens' : (s₂.setGen s.gens.size gs').gens = s.gens.push gs' := by
          show s₂.gens.setIfInBounds s.gens.size gs' = _
          rw [hg2]
          show (s₁.gens.setIfInBounds s.gens.size .running).setIfInBounds s.gens.size gs' = _
          rw [hgens, push_set, push_set]
        have hos' : (s₂.setGen s.gens.size gs').os = s.os := ho2.trans hos
        have hgoes : ∀ s'' : Shared, (∀ b o, s.heap.get? b = some o → s''.heap.get? b = some o) → s''.heap.get? G = some oG' → s''.heap.get? Lg = some oL' → s''.heap.get? e' = some oe' → s''.heap.get? it' = some oi' →
            gs'.Goes (model prog w) B.in1 (GR Lg) (GY Lg G (yl 0 false cs)) ((yl 0 false cs).length - (k + 1)) (.send .none) s'' := fun s'' _ q1 q2 q3 q4 => by
          have e10 : (yl 0 false cs).length - (k + 1) = m' := by omega
          rw [e10]; exact hcont s'' q1 q2 q3 q4
        refine ⟨_, rfl, letgo_gen g1 hGO ?_⟩
        refine asg_pair (L := s.heap.objs.size) hB rfl rfl rfl rfl hTup F2 N2 ?_
        intro h4 tk4 F4 N4
        clear F N F2 N2 hgo hgo1 hcont hfd hns hTup
        rw [norm4 hm1 hm2 hm3 hm4] at F4
        refine gen_Q fun Q0 hQ0 => ?_
        obtain ⟨a, op, res⟩ := st
        simp only at hm2 hm3 hvs hop hvl hpl
        have hD1 : @LT.lt Nat _ D G := Nat.lt_trans hDLg hLG
        have hD2 : @LT.lt Nat _ D e' := Nat.lt_trans hDLg g5
        have hD3 : @LT.lt Nat _ D it' := Nat.lt_trans hDLg g6
        have hD4 : @LT.lt Nat _ D Lg := hDLg
        have hvn : vs.length ≤ 200 := by
          have q1 := hvs.length
          have q2 := yl_len cs 0 false
          rw [List.length_map] at q1
          omega
        by_cases hp2 : p.2 = [34]
        · have hd2 : decide (p.2 = [34]) = true := decide_eq_true hp2
          cases op with
          | none =>
            have hS : stp cs (a, none, res) p = (a, some p.1, res) := if_pos hp2
            simp only [opV] at F4
            repeat walk1
            subst hQ0
            refine ⟨gs', _, oG', oL', oe', oi', e', it', vs, nn, stp cs (a, none, res) p, t1, tk', hgens', hos', by assumption, by assumption, hGO, g5, g6, hgoes, rfl, ?_, ?_, rfl, ?_, hfold, hok', ?_, ?_⟩
            · rw [hS]; rfl
            · rw [hS]; rfl
            · rw [hS]; exact hvs
            · rw [hS]; exact Nat.le_succ_of_le hvl
            · rw [hS]; exact hpl
          | some o =>
            obtain ⟨hao, hoc⟩ := hop o rfl
            simp only [opV] at F4
            iterate 24 walk1
            split
            · rename_i hc
              have hae : ¬ a = o := by
                clear hd hlen hvn hD1 hD2 hD3 hD4 hvl hao hoc
                simp at hc; omega
              have hS : stp cs (a, some o, res) p = (p.1 + 1, none, res ++ [(cs.drop a).take (o - a)]) := (if_pos hp2).trans (by simp [hae])
              repeat ((fail_if_success (with_reducible show wpAny _ _ (call (Value.builtin "list.append") _) _ _ _)); walk1)
              refine append_K (by assumption) (by assumption) (by k_upd) ?_ (by rw [sizeLine_eq]; simp; omega)
              intro h8 F8 N8
              simp only [List.push_toArray] at N8
              repeat walk1
              rw [hS] at hfold hok'
              subst hQ0
              refine ⟨gs', _, oG', oL', oe', oi', e', it', _, _, (p.1 + 1, none, res ++ [(cs.drop a).take (o - a)]), _, 0, hgens', hos', by assumption, by assumption, hGO, g5, g6, hgoes, rfl, rfl, rfl, rfl, ?_, hfold, hok', ?_, ?_⟩
              · rw [List.map_append]
                have e11 : ((o : Int) - (a : Int)).toNat = o - a := by omega
                have e12 : ((a : Int)).toNat = a := by omega
                rw [e11, e12]
                exact hvs.append' (.cons _ _ .nil)
              · simp; omega
              · intro l hl
                rcases List.mem_append.mp hl with hl | hl
                · exact hpl l hl
                · rw [List.mem_singleton.mp hl]; simp; omega
            · rename_i hc
              have hae : a = o := by
                clear hd hlen hvn hD1 hD2 hD3 hD4 hvl hao hoc
                simp at hc; omega
              have hS : stp cs (a, some o, res) p = (p.1 + 1, none, res) := (if_pos hp2).trans (by simp [hae])
              repeat walk1
              rw [hS] at hfold hok'
              subst hQ0
              refine ⟨gs', _, oG', oL', oe', oi', e', it', vs, nn, (p.1 + 1, none, res), _, 0, hgens', hos', by assumption, by assumption, hGO, g5, g6, hgoes, rfl, rfl, rfl, rfl, hvs, hfold, hok', Nat.le_succ_of_le hvl, hpl⟩
        · have hd2 : decide (p.2 = [34]) = false := decide_eq_false hp2
          have hS : stp cs (a, op, res) p = (a, op, res) := if_neg hp2
          repeat walk1
          subst hQ0
          refine ⟨gs', _, oG', oL', oe', oi', e', it', vs, nn, stp cs (a, op, res) p, t1, t2, hgens', hos', by assumption, by assumption, hGO, g5, g6, hgoes, rfl, ?_, ?_, rfl, ?_, hfold, hok', ?_, ?_⟩
          · rw [hS]; rfl
          · rw [hS]; rfl
          · rw [hS]; exact hvs
          · rw [hS]; exact Nat.le_succ_of_le hvl
          · rw [hS]; exact hpl
      · rintro s₂ ⟨hz, _⟩
        exact absurd hz (by omega)
    · rintro E' s₁ ⟨gs, m, oG, oL, oe, oi, e, it, vs, nn, st, t1, t2, hgens, hos, F, N, hGO, hLe, hLit, hgo, hm1, hm2, hm3, hm4, hvs, hst, hok, hvl, hpl⟩
      have hgs : s₁.gens[s.gens.size]? = some gs := by rw [hgens]; simp
      have hGen : s₁.heap.IsGen G s.gens.size := by
        obtain ⟨nm, qn, h5, h6, h7⟩ := id hGO
        exact ⟨oG, nm, qn, (N _ (.tail _ (.head _))).1, h5, h6, h7⟩
      have hgo1 := hgo (s₁.setGen s.gens.size .running) F.keep (N _ (.tail _ (.head _))).1 (N _ (.tail _ (.tail _ (.head _)))).1 (N _ (.tail _ (.tail _ (.tail _ (.head _))))).1 (N _ (.tail _ (.tail _ (.tail _ (.tail _ (.head _)))))).1
      rw [Nat.sub_self] at hgo1
      refine wpAny_pyNext_gen (n := 0) hB ((T.keeps F.keep).t.nolimit) (by simp only [recursionLimit]; omega) hGen hgs hgo1 ?_ ?_
      · intro v s₂ gs' hy
        obtain ⟨e', it', oG', oL', oe', oi', g1, g2, g3, g4, _, _, _, _, _, _, _, hcont⟩ := hy
        exact (hcont s₂ g1 g2 g3 g4).elim
      · rintro s₂ ⟨_, hkeep, hg2, ho2⟩ h' hk'
        refine ⟨rfl, ?_⟩
        have F2 : Fr s.heap s.heap.objs.size h' m := ⟨F.ns.at' fun o e => hk' _ o (hkeep _ o hLL e), fun b o e => hk' b o (hkeep b o (Nat.lt_trans (Heap.lt_size e) hLL) (F.keep b o e)), F.above⟩
        have N2 : News s.heap s.heap.objs.size h' [(D, listOf vs.toArray nn)] := by
          intro q hq
          rcases List.mem_singleton.mp hq with rfl
          exact ⟨hk' _ _ (hkeep _ _ hDLg (N _ (.head _)).1), (N _ (.head _)).2⟩
        have R2 : Rs s.gens s.os (s₂.setGen s.gens.size .finished).gens s₂.os := by
          have e1 : (s₂.setGen s.gens.size .finished).gens = s.gens.push .finished := by
            show s₂.gens.setIfInBounds s.gens.size .finished = _
            rw [hg2]
            show (s₁.gens.setIfInBounds s.gens.size .running).setIfInBounds s.gens.size .finished = _
            rw [hgens, push_set, push_set]
          have e2 : s₂.os = s.os := ho2.trans hos
          rw [e1, e2]; exact rs_push _ _
        clear F N hgo hgo1 hfd hns
        rw [norm3 hm1 hm2 hm4] at F2
        have hvn : vs.length ≤ 200 := by
          have q1 := hvs.length
          have q2 := yl_len cs 0 false
          rw [List.length_map] at q1
          omega
        rw [List.take_length] at hst
        have eE : stripF cs = (if st.1 < cs.length then st.2.2 ++ [cs.drop st.1] else st.2.2).flatten := by rw [eF, ← hst]; rfl
        obtain ⟨a, op, res⟩ := st
        simp only at hm2 hm3 hvs hvl hpl eE
        dsimp only
        iterate 13 walk1
        split
        · rename_i hc
          have hac : a < cs.length := by simpa using hc
          rw [if_pos hac] at eE
          repeat ((fail_if_success (with_reducible show wpAny _ _ (call (Value.builtin "list.append") _) _ _ _)); walk1)
          refine append_K (by assumption) (by assumption) (by k_upd) ?_ (by rw [sizeLine_eq]; simp; omega)
          intro h8 F8 N8
          simp only [List.push_toArray] at N8
          repeat ((fail_if_success (with_reducible show wpAny _ _ (call (Value.builtin "str.join") _) _ _ _)); walk1)
          have e12 : ((a : Int)).toNat = a := by omega
          rw [e12] at N8
          refine r_join (ls := res ++ [cs.drop a]) ⟨_, (N8 _ (.head _)).1, rfl, _, rfl⟩ ?_ ?_ ?_ ?_
          · rw [List.map_append]; exact hvs.append' (.cons _ _ .nil)
          · have q2 := yl_len cs 0 false
            simp; omega
          · intro l hl
            rcases List.mem_append.mp hl with hl | hl
            · exact hpl l hl
            · rw [List.mem_singleton.mp hl]; simp; omega
          · intro t9 k9
            rw [← eE]
            subst hQT
            exact h t9 _ ⟨F8.keep, R2⟩
        · rename_i hc
          have hac : ¬ a < cs.length := by simpa using hc
          rw [if_neg hac] at eE
          repeat ((fail_if_success (with_reducible show wpAny _ _ (call (Value.builtin "str.join") _) _ _ _)); walk1)
          refine r_join (ls := res) ⟨_, (N2 _ (.head _)).1, rfl, _, rfl⟩ hvs ?_ hpl ?_
          · have q2 := yl_len cs 0 false
            omega
          · intro t9 k9
            rw [← eE]
            subst hQT
            exact h t9 _ ⟨F2.keep, R2⟩
  · have hdec : decide (34 ∈ cs) = false := decide_eq_false h34
    have eF : stripF cs = cs := if_neg h34
    repeat walk1
    have hq := h t _ (Kp.of (s' := ⟨h₁, s.gens, s.drawn, tk, s.os⟩) F R0)
    rw [eF] at hq
    subst hQT
    exact hq

theorem pick_perm (kl ll : List Nat) (q : Nat) (h : q < ll.length) : ((kl ++ [ll.getD q 0]) ++ (ll.take q ++ ll.drop (q + 1))).Perm (kl ++ ll) := by
  have e : ll.getD q 0 = ll[q] := by simp [List.getD, h]
  rw [e, List.append_assoc]
  refine List.Perm.append_left kl ?_
  have e2 : ll = ll.take q ++ ll[q] :: ll.drop (q + 1) := by
    rw [← List.drop_eq_getElem_cons h, List.take_append_drop]
  conv => rhs; rw [e2]
  show (ll[q] :: (ll.take q ++ ll.drop (q + 1))).Perm _
  exact List.perm_middle.symm
theorem take_drop_len (l : List Nat) (q : Nat) (h : q < l.length) : (l.take q ++ l.drop (q + 1)).length = l.length - 1 := by
  rw [List.length_append, List.length_take, List.length_drop]; omega
theorem kinds_call {prog : Program} {w : World} {mean mg mb} {A : Around} {s : Shared} {Q E : Value → Shared → Prop} {D : Addr} {vs : List Value} {ns : List Int}
   (hd : A.depth < 900) (T : TK w mean mg mb s.heap) (hl : s.heap.IsList D vs.toArray) (hi : IntsAre vs ns) (hn : ns.length = 4) (hh : A.handled = none)
   (h : ∀ (l : List Nat) t s', l.length = 3 → l.Nodup → (∀ c ∈ l, c ∈ cs8) → Kp s s' → Q (.str (sx l) t) s') :
   wpAny (model prog w) A (call (.ref 52) [.ref D]) Q E s := by
  have ho := T.k 52 _ rfl
  refine wpAny_call (call_plain_ret (binds := [(Str.ofString "draws", .ref D)]) (by simp only [recursionLimit]; omega) ho rfl T.t.nolimit ?_ rfl (by simp) ?_)
  · have h2 := T.k 51 _ rfl
    exact ⟨_, _, _, _, rfl, h2, rfl, rfl⟩
  intro h₁ F
  have TT := T.t
  have KX := T.k
  have R0 := Rs.refl s.gens s.os
  have N : News s.heap s.heap.objs.size h₁ [] := News.nil
  clear ho T
  w_on
  w_top on
  refine gen_Q fun QT hQT => ?_
  repeat ((fail_if_success (with_reducible show wpAny _ _ (exec (Stmt.For _ _ _ _ _) _) _ _ _)); walk1)
  refine wpAny_For ?_
  iterate 6 walk1
  refine it_range (n := 3) (by decide) (by assumption) (by assumption) ?_
  intro I h₂ tk₂ F N hlt
  have e8 : sx cs8 = Str.ofString "+-*/|&<>" := by decide +kernel
  have e0 : sx [] = Str.ofString "" := by decide +kernel
  refine for_range (s₀ := s) (L := s.heap.objs.size) (n := 3) (fun i m own => own = [] ∧ m (Str.ofString "draws") = some (.ref D) ∧ ∃ (kl ll : List Nat) (tk tl : Tok), m (Str.ofString "kinds") = some (.str (sx kl) tk) ∧ m (Str.ofString "left") = some (.str (sx ll) tl) ∧
     kl.length = i ∧ ll.length = 8 - i ∧ (kl ++ ll).Nodup ∧ ∀ c ∈ kl ++ ll, c ∈ cs8) hh rfl rfl rfl ⟨rfl, rfl, [], cs8, _, _, rfl, rfl, rfl, rfl, by decide, by decide⟩ F N (by simp) R0 ?_ ?_
  · rintro E' i t s₁ m₁ own₁ o hi3 ⟨rfl, hdr, kl, ll, tk, tl, hk, hlf, hkl, hll, hnd, hcs⟩ F N R _
    rw [norm3 hdr hk hlf] at F
    have hl100 : ll.length ≤ 100 := by omega
    refine gen_Q fun Q0 hQ0 => ?_
    iterate 16 walk1
    walk1
    refine r_modpos (by omega) ?_
    intro p t₃ k₃ hp0 hp1
    repeat walk1
    have hP := pick_perm kl ll p.toNat (by omega)
    have e1 : (p + 1).toNat = p.toNat + 1 := by omega
    subst hQ0
    refine ⟨_, _, ⟨rfl, rfl, _, _, _, _, rfl, rfl, ?_, ?_, ?_, ?_⟩, by assumption, by assumption, R, by simp⟩
    · simp [hkl]
    · rw [e1, take_drop_len _ _ (by omega)]; omega
    · rw [e1]; exact hP.nodup_iff.mpr hnd
    · rw [e1]; exact fun c hc => hcs c (hP.mem_iff.mp hc)
  · rintro s₁ m₁ own₁ ⟨rfl, hdr, kl, ll, tk, tl, hk, hlf, hkl, hll, hnd, hcs⟩ F N R
    rw [norm1 hk] at F
    dsimp only
    repeat walk1
    subst hQT
    refine h kl _ _ hkl ?_ ?_ (Kp.of (by assumption) R)
    · exact (List.nodup_append.mp hnd).1
    · exact fun c hc => hcs c (List.mem_append_left _ hc)

local macro_rules | `(tactic| walk_at "unpackItems ref none") => `(tactic| ((refine unpackItemsN_ (by assumption) (by assumption) (News.isTup (by assumption) (by first | exact .head _ | exact .tail _ (.head _) | exact .tail _ (.tail _ (.head _)))) (by assumption) rfl ?_); intro h' F' N'))
/-- what stands behind the first c -/
noncomputable def afterC (c : Nat) : List Nat → Option (List Nat)
  | [] => none
  | y :: t => if y = c then some t else afterC c t
/-- are the words met one behind the other -/
noncomputable def subW : List (List Nat) → List Nat → Bool
  | [], _ => true
  | [] :: r, t => subW r t
  | (c :: _) :: r, t => match afterC c t with | none => false | some t' => subW r t'
theorem afterC_none {c : Nat} : ∀ {l : List Nat}, (∀ i : Nat, l[i]? ≠ some c) → afterC c l = none
  | [], _ => rfl
  | y :: t, h => by
    have h0 : ¬ y = c := fun e => h 0 (by simp [e])
    simp only [afterC, h0, if_false]
    exact afterC_none fun i => by have := h (i + 1); simpa using this
theorem afterC_some {c : Nat} : ∀ {l : List Nat} {i : Nat}, l[i]? = some c → (∀ k, k < i → l[k]? ≠ some c) → afterC c l = some (l.drop (i + 1))
  | [], i, h, _ => by simp at h
  | y :: t, 0, h, _ => by simp at h; simp [afterC, h]
  | y :: t, i + 1, h, hb => by
    have h0 : ¬ y = c := fun e => hb 0 (by omega) (by simp [e])
    simp only [afterC, h0, if_false]
    rw [afterC_some (l := t) (i := i) (by simpa using h) fun k hk => by have := hb (k + 1) (by omega); simpa using this]
    simp
section
open Builtin Builtin.Str
theorem gives_find4 (x y : Str) (i j : Int) (t u v v' : Tok) : Gives («str.find» ⟨[.str x t, .str y u, .int i v, .int j v'], []⟩) (.int (match occurrences x y (fromIndex x.length i) (min (fromIndex x.length j) x.length) 1 with | k :: _ => (k : Int) | [] => -1)) := by
  show Gives (match occurrences x y (fromIndex x.length i) (min (fromIndex x.length j) x.length) 1 with | k :: _ => retInt k | [] => (do rule "str.find.not-found"; retInt (-1))) _
  cases occurrences x y (fromIndex x.length i) (min (fromIndex x.length j) x.length) 1 with
  | nil => exact .rule (.of_eq rfl)
  | cons k _ => exact .of_eq rfl
end
section
variable {prog : Program} {w : World} {A : Around} {E : Value → Shared → Prop} {s : Shared} {ys : List Nat} {t u v v' : Tok} {p : Nat} {Q : Value → Shared → Prop}
theorem find_all {y : Str} {z : Int} (hz : z = (ys.length : Nat)) (hq : ∀ k, Q (.int (match Builtin.Str.occurrences (sx ys) y p (sx ys).length 1 with | k :: _ => (k : Int) | [] => -1) s.toks) { s with toks := k }) :
    wpAny (model prog w) A (call (.builtin "str.find") [.str (sx ys) t, .str y u, .int (p : Nat) v, .int z v']) Q E s := by
  refine call_gives F.slot_str_find (typeIs_str _ _ _) F.entry_str_find (F.args_str_find_4 _ _ _ _) (gives_find4 (sx ys) y p z t u v v') ?_
  have e1 : fromIndex (sx ys).length (p : Nat) = p := by unfold fromIndex; split <;> omega
  have e2 : min (fromIndex (sx ys).length z) (sx ys).length = (sx ys).length := by
    subst hz; unfold fromIndex; rw [sx_len]; split <;> omega
  rw [e1, e2]
  exact hq _
theorem r_find0 {z : Int} (hz : z = (ys.length : Nat)) (hp : p ≤ ys.length) (hq : ∀ t' k, Q (.int (p : Nat) t') { s with toks := k }) :
    wpAny (model prog w) A (call (.builtin "str.find") [.str (sx ys) t, .str (sx []) u, .int (p : Nat) v, .int z v']) Q E s := by
  refine find_all hz fun k => ?_
  have hAt : ∀ i, i ≤ ys.length → StrLaws.At (sx ys) (sx []) (sx ys).length i := fun i hi => ⟨by rw [sx_len, sx_len]; simpa using hi, by rw [StrLaws.subAt_eq, sx_cps, sx_cps, sx_len]; simp⟩
  rcases StrLaws.occ_head_from (sx ys) (sx []) p 1 (Nat.le_refl _) with ⟨_, h1⟩ | ⟨i, r, h0, h1, h2, h3⟩
  · exact absurd (hAt p hp) (h1 p (Nat.le_refl _))
  · have : i = p := by
      rcases Nat.lt_or_ge p i with h | h
      · exact absurd (hAt p hp) (h3 p (Nat.le_refl _) h)
      · omega
    subst this
    rw [h0]; exact hq _ _
theorem r_find1 {z : Int} {c : Nat} (hz : z = (ys.length : Nat)) (hp : p ≤ ys.length) (h1 : afterC c (ys.drop p) = none → ∀ t' k, Q (.int (-1) t') { s with toks := k })
    (h2 : ∀ i : Nat, p ≤ i → i < ys.length → afterC c (ys.drop p) = some (ys.drop (i + 1)) → ∀ t' k, Q (.int (i : Nat) t') { s with toks := k }) :
    wpAny (model prog w) A (call (.builtin "str.find") [.str (sx ys) t, .str (sx [c]) u, .int (p : Nat) v, .int z v']) Q E s := by
  refine find_all hz fun k => ?_
  have hAt : ∀ i, StrLaws.At (sx ys) (sx [c]) (sx ys).length i ↔ ys[i]? = some c := fun i => by
    have := StrLaws.subAt_one (sx ys) c i
    rw [sx_cps] at this
    exact this
  rcases StrLaws.occ_head_from (sx ys) (sx [c]) p 1 (Nat.le_refl _) with ⟨h0, h3⟩ | ⟨i, r, h0, h3, h4, h5⟩
  · rw [h0]
    refine h1 (afterC_none fun i hi => ?_) _ _
    rw [List.getElem?_drop] at hi
    exact h3 (p + i) (by omega) ((hAt _).mpr hi)
  · rw [h0]
    have h6 := (hAt i).mp h4
    have hi : i < ys.length := (List.getElem?_eq_some_iff.mp h6).1
    refine h2 i h3 hi ?_ _ _
    have := afterC_some (c := c) (l := ys.drop p) (i := i - p) (by rw [List.getElem?_drop]; rw [show p + (i - p) = i by omega]; exact h6) fun k hk hk2 => by
      rw [List.getElem?_drop] at hk2
      exact h5 (p + k) (by omega) (by omega) ((hAt _).mpr hk2)
    rw [this, List.drop_drop, show p + (i - p + 1) = i + 1 by omega]
end
/-- dots ahead, between and behind -/
noncomputable def pat : List Nat → List Nat
  | [] => [46, 46, 46, 46, 46, 46]
  | xs => xs.flatMap (fun c => [46, 46, 46, c]) ++ [46, 46, 46]
/-- what the dots part -/
noncomputable def pws : List Nat → List (List Nat)
  | [] => [[], [], []]
  | xs => [] :: xs.map (fun c => [c]) ++ [[]]
section
open Builtin Builtin.Str
theorem occ_same {x x' y : Str} {lo hi limit : Nat} (h : ∀ i, subAt x y i = subAt x' y i) : occurrences x y lo hi limit = occurrences x' y lo hi limit := by
  unfold occurrences
  simp only [h]
theorem sub_dots {l l' : List Nat} (h : l.map (fun c => decide (c = 46)) = l'.map (fun c => decide (c = 46))) (i : Nat) : subAt (sx l) (sx [46, 46, 46]) i = subAt (sx l') (sx [46, 46, 46]) i := by
  rw [StrLaws.subAt_eq, StrLaws.subAt_eq, sx_cps, sx_cps, sx_cps]
  have key : ∀ a : List Nat, (a == [46, 46, 46]) = (a.map (fun c => decide (c = 46)) == [true, true, true]) := by
    intro a
    rcases a with _ | ⟨a, _ | ⟨b, _ | ⟨c, _ | ⟨d, r⟩⟩⟩⟩ <;> simp [show ∀ n : Nat, (n == 46) = decide (n = 46) from fun n => by by_cases h : n = 46 <;> simp [h]]
  rw [key, key, List.map_take, List.map_drop, List.map_take, List.map_drop, h]
end
theorem split_pat {xs : List Nat} (h46 : ∀ c ∈ xs, c ≠ 46) (h256 : ∀ c ∈ xs, c < 256) (hl : xs.length ≤ 4) : Txt.split (sx (pat xs)) (sx [46, 46, 46]) = (pws xs).map sx := by
  have hk : ∀ (l l' : List Nat) (cuts : List Nat), (∀ c ∈ l, c < 256) → 3 ≤ l.length → l.length = l'.length → l.map (fun c => decide (c = 46)) = l'.map (fun c => decide (c = 46)) → Builtin.Str.occurrences (sx l') (sx [46, 46, 46]) 0 l'.length (l'.length + 1) = cuts → cuts ≠ [] →
      Txt.split (sx l) (sx [46, 46, 46]) = Builtin.Str.partsBetween (sx l) cuts 3 := by
    intro l l' cuts h1 h2 h3 h4 h5 h6
    unfold Txt.split
    have e1 : Builtin.Str.occurrences (sx l) (sx [46, 46, 46]) 0 (sx l).length ((sx l).length + 1) = cuts := by
      rw [sx_len, occ_same (sub_dots h4), h3]; exact h5
    have e2 : Builtin.Str.strKind (sx l) = 1 := by
      unfold Builtin.Str.strKind
      rw [if_pos]
      simp only [sx, List.all_toArray, List.all_eq_true, decide_eq_true_eq]; exact h1
    have e3 : Builtin.Str.strKind (sx [46, 46, 46]) = 1 := by decide +kernel
    rw [e1, e2, e3, sx_len, sx_len]
    rw [if_neg (by simp; omega), if_neg (by simpa using h6)]
    rfl
  have hp : ∀ (l : List Nat) (i j : Nat), Builtin.Str.strSub (sx l) i j = sx ((l.drop i).take (j - i)) := by
    intro l i j
    apply Str.ext'
    apply Array.ext'
    rw [StrLaws.strSub_toList]
    simp [sx]
  exact match xs, hl, h46, h256 with
  | [], _, _, _ => by decide +kernel
  | [a], _, h46, h256 => by
    have qa := h256 a (by simp)
    have ra := h46 a (by simp)
    rw [hk (pat [a]) (pat [0]) [0, 4] (by simp [pat, qa]) (by simp [pat]) (by simp [pat]) (by simp [pat, ra]) (by decide +kernel) (by simp)]
    simp [Builtin.Str.partsBetween, hp, pat, pws, sx_len]
  | [a, b], _, h46, h256 => by
    have qa := h256 a (by simp)
    have ra := h46 a (by simp)
    have qb := h256 b (by simp)
    have rb := h46 b (by simp)
    rw [hk (pat [a, b]) (pat [0, 0]) [0, 4, 8] (by simp [pat, qa, qb]) (by simp [pat]) (by simp [pat]) (by simp [pat, ra, rb]) (by decide +kernel) (by simp)]
    simp [Builtin.Str.partsBetween, hp, pat, pws, sx_len]
  | [a, b, c], _, h46, h256 => by
    have qa := h256 a (by simp)
    have ra := h46 a (by simp)
    have qb := h256 b (by simp)
    have rb := h46 b (by simp)
    have qc := h256 c (by simp)
    have rc := h46 c (by simp)
    rw [hk (pat [a, b, c]) (pat [0, 0, 0]) [0, 4, 8, 12] (by simp [pat, qa, qb, qc]) (by simp [pat]) (by simp [pat]) (by simp [pat, ra, rb, rc]) (by decide +kernel) (by simp)]
    simp [Builtin.Str.partsBetween, hp, pat, pws, sx_len]
  | [a, b, c, d], _, h46, h256 => by
    have qa := h256 a (by simp)
    have ra := h46 a (by simp)
    have qb := h256 b (by simp)
    have rb := h46 b (by simp)
    have qc := h256 c (by simp)
    have rc := h46 c (by simp)
    have qd := h256 d (by simp)
    have rd := h46 d (by simp)
    rw [hk (pat [a, b, c, d]) (pat [0, 0, 0, 0]) [0, 4, 8, 12, 16] (by simp [pat, qa, qb, qc, qd]) (by simp [pat]) (by simp [pat]) (by simp [pat, ra, rb, rc, rd]) (by decide +kernel) (by simp)]
    simp [Builtin.Str.partsBetween, hp, pat, pws, sx_len]
theorem pat_len (xs : List Nat) (hl : xs.length ≤ 4) : (pat xs).length ≤ 100 := by
  match xs, hl with
  | [], _ => simp [pat]
  | [a], _ => simp [pat]
  | [a, b], _ => simp [pat]
  | [a, b, c], _ => simp [pat]
  | [a, b, c, d], _ => simp [pat]
theorem pat_has (xs : List Nat) (hl : xs.length ≤ 4) : (!(Builtin.Str.occurrences (sx (pat xs)) (sx [46, 46, 46]) 0 (sx (pat xs)).length 1).isEmpty) = true := by
  rw [StrLaws.found_iff]
  refine ⟨0, ?_, ?_⟩
  · rw [sx_len, sx_len]
    match xs, hl with
    | [], _ => simp [pat]
    | a :: r, _ => simp [pat]
  · rw [StrLaws.subAt_eq, sx_cps, sx_cps, sx_len]
    match xs, hl with
    | [], _ => simp [pat]
    | a :: r, _ => simp [pat]

section
variable {prog : Program} {w : World} {A : Around} {E : Value → Shared → Prop} {s : Shared}
theorem r_truthy {l : List Nat} {t : Tok} {Q : Bool → Shared → Prop} (hl : l.length ≤ 10000) (h : ∀ k, Q (decide (l ≠ [])) { s with toks := k }) : wpAny (model prog w) A (truthy (.str (sx l) t)) Q E s := by
  refine P.truthy_str (by rw [sx_len]; omega) ?_
  rw [sx_len]
  have e : ((l.length : Int) != 0) = decide (l ≠ []) := by
    cases l with
    | nil => rfl
    | cons a r => simp; omega
  rw [e]; exact h _
theorem r_listItem {value slice : Expr} {D : Addr} {items : Array Value} {k : Int} {u : Tok} {x : Value} {Q : Value → Shared → Prop} (hl : s.heap.IsList D items)
    (h0 : 0 ≤ k) (hfit : k < 2 ^ 63) (hx : items[k.toNat]? = some x) (h : Q x s)
    (hs : subscripted slice false (.ref D) (.int k u) = operate [.ref D, .int k u] (getItem (.ref D) (.int k u)) := by with_unfolding_all rfl) :
    wpAny (model prog w) A (subscriptTail value slice (.ref D) (.int k u)) Q E s :=
  tail_any hl.typeIs slot_list_getitem.lookup (wpAny_getItem_list hl h0 hfit hx h) hs
theorem r_listLast {value slice : Expr} {D : Addr} {items : Array Value} {u : Tok} {x : Value} {Q : Value → Shared → Prop} (hl : s.heap.IsList D items)
    (hz : 0 < items.size) (hx : items[items.size - 1]? = some x) (h : Q x s)
    (hs : subscripted slice false (.ref D) (.int (-1) u) = operate [.ref D, .int (-1) u] (getItem (.ref D) (.int (-1) u)) := by with_unfolding_all rfl) :
    wpAny (model prog w) A (subscriptTail value slice (.ref D) (.int (-1) u)) Q E s :=
  tail_any hl.typeIs slot_list_getitem.lookup (wpAny_getItem_list_neg hl (by decide) (by omega) (by decide) (by rw [show (-1 + (items.size : Int)).toNat = items.size - 1 by omega]; exact hx) h) hs
end
theorem pws_cases (xs : List Nat) : ∃ mid, pws xs = [] :: mid ∧ (pws xs).getLast? = some [] ∧ (pws xs).length = (max xs.length 1) + 2 ∧ ∀ l ∈ pws xs, l.length ≤ 1 := by
  match xs with
  | [] => exact ⟨[[], []], rfl, rfl, rfl, by simp [pws]⟩
  | x :: r =>
    refine ⟨(x :: r).map (fun c => [c]) ++ [[]], rfl, ?_, by simp [pws], ?_⟩
    · show (([] :: (x :: r).map (fun c => [c])) ++ [[]]).getLast? = _
      exact List.getLast?_concat
    · intro l hl
      simp only [pws, List.cons_append, List.mem_cons, List.mem_append, List.mem_map, List.not_mem_nil, or_false] at hl
      rcases hl with rfl | ⟨c, _, rfl⟩ | rfl <;> simp
noncomputable def EJ (D : Addr) (vs : List Value) (xs ys : List Nat) (t' : Tok) (i : Nat) (m : Str → Option Value) (own : List (Addr × Obj)) : Prop :=
  own = [(D, listOf vs.toArray 0)] ∧ ∃ (p : Nat) (tp te : Tok), m (Str.ofString "got") = some (.str (sx ys) t') ∧ m (Str.ofString "startpos") = some (.int (p : Nat) tp) ∧ m (Str.ofString "endpos") = some (.int (ys.length : Nat) te) ∧
    p ≤ ys.length ∧ subW (pws xs) ys = subW ((pws xs).drop i) (ys.drop p)
theorem em_call {prog : Program} {w : World} {mean mg mb} {A : Around} {s : Shared} {Q E : Value → Shared → Prop} {xs ys : List Nat} {t t' : Tok}
   (hd : A.depth < 890) (hh : A.handled = none) (T : TK w mean mg mb s.heap) (h46 : ∀ c ∈ xs, c ≠ 46) (h256 : ∀ c ∈ xs, c < 256) (hl : xs.length ≤ 4) (hy : ys.length ≤ 100)
   (h : ∀ s', Kp s s' → Q (.bool (subW (pws xs) ys)) s') :
   wpAny (model prog w) A (call (.ref 35) [.str (sx (pat xs)) t, .str (sx ys) t']) Q E s := by
  have ho := T.k 35 _ rfl
  refine wpAny_call (call_plain_ret (binds := [(Str.ofString "want", .str (sx (pat xs)) t), (Str.ofString "got", .str (sx ys) t')]) (by simp only [recursionLimit]; omega) ho rfl T.t.nolimit ?_ rfl (by simp; decide) ?_)
  · have h2 := T.k 34 _ rfl
    exact ⟨_, _, _, _, rfl, h2, rfl, rfl⟩
  intro h₁ F
  have TT := T.t
  have KX := T.k
  have R0 := Rs.refl s.gens s.os
  have N : News s.heap s.heap.objs.size h₁ [] := News.nil
  have hpl := pat_len xs hl
  clear ho
  w_on
  w_top on
  refine gen_Q fun QT hQT => ?_
  repeat ((fail_if_success (with_reducible show wpAny _ _ (compareOp _ _ _) _ _ _)); walk1)
  refine P.notIn_str ?_
  rw [lit_dots, pat_has xs hl]
  repeat ((fail_if_success (with_reducible show wpAny _ _ (call (Value.builtin "str.split") _) _ _ _)); walk1)
  rw [lit_dots]
  refine KSpl.split1 (by assumption) (by assumption) (by decide) ?_ (by rw [sx_len]; simp only [sizeLine]; omega)
  intro D l h' k e a F2 N2 l1
  rw [split_pat h46 h256 hl] at e
  rw [e] at a
  generalize strValues l = vs at a N2
  obtain ⟨mid, hp1, hp2, hp3, hp4⟩ := pws_cases xs
  have hvl := a.length
  rw [List.length_map, hp3] at hvl
  obtain ⟨t0, ht0⟩ : ∃ t0, vs[0]? = some (.str (sx []) t0) := a.get 0 _ (by rw [hp1]; rfl)
  obtain ⟨t9, ht9⟩ : ∃ t9, vs[vs.length - 1]? = some (.str (sx []) t9) := a.get _ _ (by
    rw [List.getElem?_map, hvl, ← hp3, ← List.getLast?_eq_getElem?, hp2]; rfl)
  clear F N
  repeat ((fail_if_success (with_reducible show wpAny _ _ (call (Value.builtin "len") _) _ _ _)); walk1)
  refine kun_lenL (k := (vs.length : Nat)) (News.isList (by assumption) (.head _)) (by simp) (by omega) ?_
  repeat ((fail_if_success (with_reducible show wpAny _ _ (subscriptTail _ _ _ _) _ _ _)); walk1)
  refine r_listItem (News.isList (by assumption) (.tail _ (.head _))) (by decide) (by decide) (by simpa using ht0) ?_
  repeat ((fail_if_success (with_reducible show wpAny _ _ (truthy _) _ _ _)); walk1)
  refine r_truthy (by simp) fun k2 => ?_
  repeat ((fail_if_success (with_reducible show wpAny _ _ (subscriptTail _ _ _ _) _ _ _)); walk1)
  refine r_listLast (News.isList (by assumption) (.tail _ (.head _))) (by simp; omega) (by simpa using ht9) ?_
  repeat ((fail_if_success (with_reducible show wpAny _ _ (truthy _) _ _ _)); walk1)
  refine r_truthy (by simp) fun k3 => ?_
  repeat ((fail_if_success (with_reducible show wpAny _ _ (exec (Stmt.For _ _ _ _ _) _) _ _ _)); walk1)
  refine wpAny_For ?_
  walk1
  rename_i D' _ _ _ _ _ _ _ F N
  have hDl : ∀ h, News s.heap s.heap.objs.size h [(D, listOf vs.toArray 0)] → h.IsList D vs.toArray := fun h N => News.isList N (.head _)
  have N1 : News s.heap s.heap.objs.size _ [(D, listOf vs.toArray 0)] := N.tail'
  refine it_list (hDl _ N1) F N1 ?_
  intro I h₂ o hI F₂ N₂ hlt
  refine for_list (s₀ := s) (L := s.heap.objs.size) (items := vs.toArray) (EJ D vs xs ys t') hh rfl rfl rfl (fun i m₁ own₁ h hJ F N => hDl _ (hJ.1 ▸ N)) ⟨rfl, 0, _, _, rfl, rfl, rfl, Nat.zero_le _, rfl⟩ hI F₂ N₂ (by simp; exact Nat.ne_of_lt (hlt _ (.head _))) R0 ?_ ?_
  · rintro E' i v s₁ m₁ own₁ o hv ⟨rfl, p, tp, te, hgot, hsp, hep, hpl, hsub⟩ F N R off
    obtain ⟨l, tl, rfl, hli⟩ : ∃ l tl, v = .str (sx l) tl ∧ (pws xs)[i]? = some l := by
      obtain ⟨y, t, hv', hy'⟩ := a.item i v (by simpa using hv)
      rw [List.getElem?_map] at hy'
      obtain ⟨l, hl1, hl2⟩ := Option.map_eq_some_iff.mp hy'
      exact ⟨l, t, by rw [hv', hl2], hl1⟩
    rw [norm3 hgot hsp hep] at F
    refine gen_Q fun Q0 hQ0 => ?_
    repeat ((fail_if_success (with_reducible show wpAny _ _ (call (Value.builtin "str.find") _) _ _ _)); walk1)
    have hlen1 := hp4 l (List.mem_of_getElem? hli)
    have hdr : (pws xs).drop i = l :: (pws xs).drop (i + 1) := by
      obtain ⟨hi1, hi2⟩ := List.getElem?_eq_some_iff.mp hli
      rw [List.drop_eq_getElem_cons hi1, hi2]
    rw [hdr] at hsub
    rcases l with _ | ⟨c, _ | ⟨c2, l⟩⟩
    rotate_right
    · exact absurd hlen1 (by simp)
    ·
      refine r_find0 rfl hpl fun t2 k2 => ?_
      repeat walk1
      subst hQ0
      exact ⟨_, _, ⟨rfl, p + ([] : List Nat).length, _, _, rfl, rfl, rfl, hpl, hsub⟩, by assumption, by assumption, R, off⟩
    ·
      refine r_find1 rfl hpl (fun hn t2 k2 => ?_) (fun i2 hi1 hi2 hs t2 k2 => ?_)
      · repeat walk1
        have hF : subW (pws xs) ys = false := by rw [hsub]; simp only [subW, hn]
        rw [hF] at h
        subst hQ0
        subst hQT
        exact h _ (Kp.of (by assumption) R)
      · repeat walk1
        subst hQ0
        exact ⟨_, _, ⟨rfl, i2 + [c].length, _, _, rfl, rfl, rfl, hi2, by rw [hsub]; simp only [subW, hs]; rfl⟩, by assumption, by assumption, R, off⟩
  · rintro s₁ m₁ own₁ ⟨rfl, p, tp, te, hgot, hsp, hep, hpl, hsub⟩ F N R
    rw [norm1 hgot] at F
    have hT : subW (pws xs) ys = true := by
      rw [hsub, List.drop_of_length_le (by simp; omega)]; rfl
    rw [hT] at h
    dsimp only
    repeat walk1
    subst hQT
    exact h _ (Kp.of F R)

theorem turn_last {elt : Expr} {gens : List Comprehension} {d : Nat} {target iter : Expr} {ifs : List Expr} (scope : Scope) (pos : Pos) (it acc : Value) (env : Env) (hg : gens[d]? = some ⟨target, iter, ifs, 0⟩) (hg2 : gens[d + 1]? = none) :
    compTurn (.ListComp elt gens scope pos) d it acc env = (do
      standAt iter.pos
      match ← pyNext it with
      | none => pure (.done .next)
      | some v =>
        letOwnedTupleGo target it v
        assign target env v
        let mut ok := true
        for c in ifs do
          if ok then ok ← isTrue c env (eval c env)
        if ok then
          (do let _ ← call (.builtin "list.append") [acc, ← eval elt env])
        again (.compLoop (.ListComp elt gens scope pos) d it acc env)) := by
  unfold compTurn
  simp only [hg, hg2]
  rfl
theorem turn_more {elt : Expr} {gens : List Comprehension} {d : Nat} {target iter target2 iter2 : Expr} {ifs ifs2 : List Expr} (scope : Scope) (pos : Pos) (it acc : Value) (env : Env) (hg : gens[d]? = some ⟨target, iter, ifs, 0⟩) (hg2 : gens[d + 1]? = some ⟨target2, iter2, ifs2, 0⟩) :
    compTurn (.ListComp elt gens scope pos) d it acc env = (do
      standAt iter.pos
      match ← pyNext it with
      | none => pure (.done .next)
      | some v =>
        letOwnedTupleGo target it v
        assign target env v
        let mut ok := true
        for c in ifs do
          if ok then ok ← isTrue c env (eval c env)
        if ok then
          (do
            let x ← eval iter2 env
            standAt iter2.pos
            let x ← foldedSetIterable iter2 env x
            let it2 ← holding [x] (pyIter x)
            let _ ← runOwn (.compStart (.ListComp elt gens scope pos) (d + 1) it2 acc env) env
            again (.compLoop (.ListComp elt gens scope pos) d it acc env))
        else again (.compLoop (.ListComp elt gens scope pos) d it acc env)) := by
  unfold compTurn
  simp only [hg, hg2]
  rfl
theorem start_any {prog : Program} {w : World} {A : Around} {R : Result → Shared → Prop} {s : Shared} {elt : Expr} {gens : List Comprehension} {d : Nat} {target iter : Expr} {ifs : List Expr} {scope : Scope} {pos : Pos} {it acc : Value} {env : Env} (hg : gens[d]? = some ⟨target, iter, ifs, 0⟩)
    (h0 : codeAny (model prog w) A (.compLoop (.ListComp elt gens scope pos) d it acc env) R s)
    (h : wpAny (model prog w) A (pyIter it) (fun it' s' => codeAny (model prog w) A (.compLoop (.ListComp elt gens scope pos) d it' acc env) R s')
      (notedBy (model prog w) A env fun x s' => R (.error x) s') s) :
    codeAny (model prog w) A (.compStart (.ListComp elt gens scope pos) d it acc env) R s := by
  refine codeAny_of_tree ?_
  show wpAny _ _ ((compStart (.ListComp elt gens scope pos) d it acc env).onRaise (fun x => do noteFrame x env; standAt theWindowsPlace)) _ _ s
  refine wpAny_notedAt ?_
  have e : (clausesOf (.ListComp elt gens scope pos))[d]? = some ⟨target, iter, ifs, 0⟩ := hg
  unfold compStart
  rw [e]
  show wpAny _ _ (ask >>= _) _ _ s
  refine wpAny_bind (wpAny_askSetting (wpAny_ite ?_))
  split
  · first
      | exact wpAny_bind (wpAny_pure (wpAny_pure (And.intro rfl h0)))
      | exact wpAny_pure (And.intro rfl h0)
  · first
      | exact wpAny_bind (wpAny_rule (wpAny_bind (wpAny_standAt (wpAny_bind (wpAny_mono h (fun it' s' h' => wpAny_pure (And.intro rfl h')) fun _ _ x => x)))))
      | (refine wpAny_bind (wpAny_rule ?_); show wpAny _ _ (standAt iter.pos >>= _) _ _ s; exact wpAny_bind (wpAny_standAt (wpAny_bind (wpAny_mono h (fun it' s' h' => wpAny_pure (And.intro rfl h')) fun _ _ x => x))))

section
variable {prog : Program} {w : World} {A : Around} {R : Result → Shared → Prop} {s : Shared} {elt : Expr} {gens : List Comprehension} {d : Nat} {target iter : Expr} {ifs : List Expr} {scope : Scope} {pos : Pos} {it acc : Value} {env : Env}
theorem loop_last (hg : gens[d]? = some ⟨target, iter, ifs, 0⟩) (hg2 : gens[d + 1]? = none) (I : Nat → Shared → Prop)
    (turn : ∀ n s, I n s → wpAny (model prog w) A (pyNext it) (fun r s₁ => match r with
      | none => R (.ok .next) s₁
      | some v => wpAny (model prog w) A (letOwnedTupleGo target it v) (fun _ s₁ => wpAny (model prog w) A (assign target env v) (fun _ s₂ =>
          wpAny (model prog w) A (forIn ifs true fun c r => if r = true then do let ok ← isTrue c env (eval c env); pure (ForInStep.yield ok) else pure (ForInStep.yield r)) (fun ok s₃ =>
            if ok = true then wpAny (model prog w) A (eval elt env) (fun x s₄ =>
              wpAny (model prog w) A (call (.builtin "list.append") [acc, x]) (fun _ s₅ => ∃ m, m < n ∧ I m s₅) (notedBy (model prog w) A env fun e s' => R (.error e) s') s₄) (notedBy (model prog w) A env fun e s' => R (.error e) s') s₃
            else ∃ m, m < n ∧ I m s₃) (notedBy (model prog w) A env fun e s' => R (.error e) s') s₂) (notedBy (model prog w) A env fun e s' => R (.error e) s') s₁) (notedBy (model prog w) A env fun e s' => R (.error e) s') s₁) (notedBy (model prog w) A env fun e s' => R (.error e) s') s)
    (n : Nat) (h : I n s) :
    codeAny (model prog w) A (.compLoop (.ListComp elt gens scope pos) d it acc env) R s := by
  refine codeAny_loop rfl I (fun n s hI => ?_) n h
  show wpAny _ A ((compTurn (.ListComp elt gens scope pos) d it acc env).onRaise (fun x => do noteFrame x env; theTreesLotGoes x)) _ _ s
  refine wpAny_noted ?_
  rw [turn_last scope pos it acc env hg hg2]
  refine wpAny_bind (wpAny_standAt (wpAny_bind (wpAny_mono (turn n s hI) (fun r s₁ h₁ => ?_) fun _ _ h' => h')))
  cases r with
  | none => exact wpAny_pure h₁
  | some v =>
    refine wpAny_bind (wpAny_mono h₁ (fun _ s₁' h₁' => ?_) fun _ _ h' => h')
    refine wpAny_bind (wpAny_mono h₁' (fun _ s₂ h₂ => wpAny_bind (wpAny_mono h₂ (fun ok s₃ h₃ => ?_) fun _ _ h' => h')) fun _ _ h' => h')
    cases ok with
    | false => exact wpAny_pure ⟨rfl, h₃⟩
    | true =>
      exact wpAny_bind (wpAny_bind (wpAny_mono h₃ (fun x s₄ h₄ => wpAny_bind (wpAny_mono h₄ (fun _ s₅ h₅ => wpAny_pure (wpAny_pure ⟨rfl, h₅⟩)) fun _ _ h' => h')) fun _ _ h' => h'))
theorem loop_more {target2 iter2 : Expr} {ifs2 : List Expr} (hg : gens[d]? = some ⟨target, iter, ifs, 0⟩) (hg2 : gens[d + 1]? = some ⟨target2, iter2, ifs2, 0⟩) (hs : ∀ x, foldedSetIterable iter2 env x = pure x) (I : Nat → Shared → Prop)
    (turn : ∀ n s, I n s → wpAny (model prog w) A (pyNext it) (fun r s₁ => match r with
      | none => R (.ok .next) s₁
      | some v => wpAny (model prog w) A (letOwnedTupleGo target it v) (fun _ s₁ => wpAny (model prog w) A (assign target env v) (fun _ s₂ =>
          wpAny (model prog w) A (forIn ifs true fun c r => if r = true then do let ok ← isTrue c env (eval c env); pure (ForInStep.yield ok) else pure (ForInStep.yield r)) (fun ok s₃ =>
            if ok = true then wpAny (model prog w) A (eval iter2 env) (fun x s₄ => wpAny (model prog w) A (pyIter x) (fun it2 s₅ =>
              codeAny (model prog w) A (.compStart (.ListComp elt gens scope pos) (d + 1) it2 acc env) (fun r s₆ => match r with
                | .ok _ => ∃ m, m < n ∧ I m s₆
                | .error e => cameBackBy (model prog w) A env (notedBy (model prog w) A env fun e s' => R (.error e) s') e s₆) s₅) (notedBy (model prog w) A env fun e s' => R (.error e) s') s₄) (notedBy (model prog w) A env fun e s' => R (.error e) s') s₃
            else ∃ m, m < n ∧ I m s₃) (notedBy (model prog w) A env fun e s' => R (.error e) s') s₂) (notedBy (model prog w) A env fun e s' => R (.error e) s') s₁) (notedBy (model prog w) A env fun e s' => R (.error e) s') s₁) (notedBy (model prog w) A env fun e s' => R (.error e) s') s)
    (n : Nat) (h : I n s) :
    codeAny (model prog w) A (.compLoop (.ListComp elt gens scope pos) d it acc env) R s := by
  refine codeAny_loop rfl I (fun n s hI => ?_) n h
  show wpAny _ A ((compTurn (.ListComp elt gens scope pos) d it acc env).onRaise (fun x => do noteFrame x env; theTreesLotGoes x)) _ _ s
  refine wpAny_noted ?_
  rw [turn_more scope pos it acc env hg hg2]
  refine wpAny_bind (wpAny_standAt (wpAny_bind (wpAny_mono (turn n s hI) (fun r s₁ h₁ => ?_) fun _ _ h' => h')))
  cases r with
  | none => exact wpAny_pure h₁
  | some v =>
    refine wpAny_bind (wpAny_mono h₁ (fun _ s₁' h₁' => ?_) fun _ _ h' => h')
    refine wpAny_bind (wpAny_mono h₁' (fun _ s₂ h₂ => wpAny_bind (wpAny_mono h₂ (fun ok s₃ h₃ => ?_) fun _ _ h' => h')) fun _ _ h' => h')
    cases ok with
    | false => exact wpAny_pure ⟨rfl, h₃⟩
    | true =>
      refine wpAny_bind (wpAny_mono h₃ (fun x s₄ h₄ => wpAny_bind (wpAny_standAt ?_)) fun _ _ h' => h')
      refine wpAny_bind (wpAny_of_eq (hs x) ?_)
      refine wpAny_bind (wpAny_holding (wpAny_mono h₄ (fun it2 s₅ h₅ => wpAny_bind (wpAny_runOwn ?_)) fun _ _ h' => h'))
      refine codeAny_mono h₅ fun r s₆ h₆ => ?_
      cases r with
      | ok f => exact wpAny_pure ⟨rfl, h₆⟩
      | error e => exact h₆
end

structure It (prog : Program) (w : World) (A : Around) (I : Addr) (n : Nat) (P : Nat → Value → Prop) (OK : Nat → Obj → Prop) (X : Heap → Prop) : Prop where
  item : ∀ (E' : Value → Shared → Prop) (i : Nat) (s₁ : Shared) (o : Obj) (Q' : Option Value → Shared → Prop), i < n → OK i o → s₁.heap.get? I = some o → X s₁.heap →
    (∀ v h' tk o', P i v → OK (i + 1) o' → h'.get? I = some o' → Heap.SameBut I s₁.heap h' → Q' (some v) { s₁ with heap := h', toks := tk }) → wpAny (model prog w) A (pyNext (.ref I)) Q' E' s₁
  last : ∀ (E' : Value → Shared → Prop) (s₁ : Shared) (o : Obj) (Q' : Option Value → Shared → Prop), OK n o → s₁.heap.get? I = some o → X s₁.heap →
    (∀ h' tk, Heap.ExtBut I s₁.heap h' → Q' none { s₁ with heap := h', toks := tk }) → wpAny (model prog w) A (pyNext (.ref I)) Q' E' s₁
  self : ∀ (E' : Value → Shared → Prop) (s₁ : Shared) (o : Obj) (Q' : Value → Shared → Prop), OK 0 o → s₁.heap.get? I = some o → Q' (.ref I) s₁ → wpAny (model prog w) A (pyIter (.ref I)) Q' E' s₁
section
variable {prog : Program} {w : World} {A : Around}
theorem It.list {I l : Addr} {items : Array Value} (hh : A.handled = none) : It prog w A I items.size (fun i v => items[i]? = some v) (fun i o => IsLI o l i) (fun h => h.IsList l items) where
  item := fun E' i s₁ o Q' hi hO ho hX hQ => by
    have hit : s₁.heap.IsListIter I l i := ⟨o, ho, hO⟩
    refine wpAny_pyNext_list_item hit hX (x := items[i]) (by simp [hi]) fun h' hit' hs' => ?_
    obtain ⟨o', ho', hc', hd'⟩ := hit'
    exact hQ _ h' s₁.toks o' (by simp [hi]) ⟨hc', hd'⟩ ho' hs'
  last := fun E' s₁ o Q' hO ho hX hQ => by
    have hit : s₁.heap.IsListIter I l items.size := ⟨o, ho, hO⟩
    exact wpAny_pyNext_list_end hh hit hX (by simp) fun h' he' => hQ h' s₁.toks he'
  self := fun E' s₁ o Q' hO ho hQ => by
    have hit : s₁.heap.IsListIter I l 0 := ⟨o, ho, hO⟩
    exact wpAny_pyIter_listiter hit hQ
theorem It.tup {I l : Addr} {items : Array Value} (hh : A.handled = none) : It prog w A I items.size (fun i v => items[i]? = some v) (fun i o => IsTI o l i) (fun h => h.IsTuple l items) where
  item := fun E' i s₁ o Q' hi hO ho hX hQ => by
    have hit : s₁.heap.IsTupleIter I l i := ⟨o, ho, hO⟩
    refine wpAny_pyNext_tuple_item hit hX (x := items[i]) (by simp [hi]) fun h' hit' hs' => ?_
    obtain ⟨o', ho', hc', hd'⟩ := hit'
    exact hQ _ h' s₁.toks o' (by simp [hi]) ⟨hc', hd'⟩ ho' hs'
  last := fun E' s₁ o Q' hO ho hX hQ => by
    have hit : s₁.heap.IsTupleIter I l items.size := ⟨o, ho, hO⟩
    exact wpAny_pyNext_tuple_end hh hit hX (by simp) fun h' he' => hQ h' s₁.toks he'
  self := fun E' s₁ o Q' hO ho hQ => by
    have hit : s₁.heap.IsTupleIter I l 0 := ⟨o, ho, hO⟩
    exact wpAny_pyIter_tupleiter hit hQ
theorem It.str {I : Addr} {st : Str} {t : Tok} (hh : A.handled = none) : It prog w A I st.cps.size (fun i v => ∃ c u, v = .str ⟨#[c]⟩ u ∧ st.cps[i]? = some c) (fun i o => IsSI o st t i) (fun _ => True) where
  item := fun E' i s₁ o Q' hi hO ho hX hQ => by
    have hit : s₁.heap.IsStrIter I "str_ascii_iterator" st t i := ⟨o, ho, hO⟩
    refine wpAny_pyNext_ascii_item hit (c := st.cps[i]) (by simp [hi]) fun h' hit' hs' => ?_
    obtain ⟨o', ho', hc', hd'⟩ := hit'
    exact hQ _ h' _ o' ⟨_, _, rfl, by simp [hi]⟩ ⟨hc', hd'⟩ ho' hs'
  last := fun E' s₁ o Q' hO ho hX hQ => by
    have hit : s₁.heap.IsStrIter I "str_ascii_iterator" st t st.cps.size := ⟨o, ho, hO⟩
    exact wpAny_pyNext_ascii_end hh hit (by simp) fun h' he' => hQ h' s₁.toks he'
  self := fun E' s₁ o Q' hO ho hQ => by
    have hit : s₁.heap.IsStrIter I "str_ascii_iterator" st t 0 := ⟨o, ho, hO⟩
    exact wpAny_pyIter_striter_ascii hit hQ
end
noncomputable def CEnd (s₀ : Shared) (L I C D : Addr) (m : Str → Option Value) (oI : Obj) (ys : List Value) (K : (Str → Option Value) → List (Addr × Obj) → Prop) (s' : Shared) : Prop :=
  ∃ oC mC own, LCg.NsObj oC mC ∧ K mC own ∧ Fr s₀.heap L s'.heap m ∧ News s₀.heap L s'.heap ((I, oI) :: (C, oC) :: (D, LCg.lst ys) :: own) ∧ LCg.Off3 I C D own ∧ Rs s₀.gens s₀.os s'.gens s'.os
noncomputable def CDone (s₀ : Shared) (L C D : Addr) (m : Str → Option Value) (K : (Str → Option Value) → List Value → List (Addr × Obj) → Prop) (r : Result) (s' : Shared) : Prop :=
  r = .ok .next ∧ ∃ oC mC ys own, LCg.NsObj oC mC ∧ K mC ys own ∧ Fr s₀.heap L s'.heap m ∧ News s₀.heap L s'.heap ((C, oC) :: (D, LCg.lst ys) :: own) ∧ (∀ p ∈ own, p.1 ≠ C ∧ p.1 ≠ D) ∧ Rs s₀.gens s₀.os s'.gens s'.os
section
variable {prog : Program} {w : World} {A : Around} {s₀ s : Shared} {elt : Expr} {gens : List Comprehension} {d : Nat} {target iter : Expr} {ifs : List Expr} {scope : Scope} {cl : List (Str × Addr)} {pos : Pos} {env : Env} {L I C D : Addr} {m : Str → Option Value}
  {n : Nat} {P : Nat → Value → Prop} {OK : Nat → Obj → Prop} {X : Heap → Prop}
theorem fr_ext3 {h₀ h h' : Heap} {L I : Addr} {m : Str → Option Value} {news : List (Addr × Obj)} {o : Obj} (F : Fr h₀ L h m) (N : News h₀ L h ((I, o) :: news)) (hs : Heap.ExtBut I h h') : Fr h₀ L h' m :=
  fr_ext F (N _ (.head _)).2.1 (N _ (.head _)).2.2 hs
theorem comp_loop (hg : gens[d]? = some ⟨target, iter, ifs, 0⟩) (hg2 : gens[d + 1]? = none) (W : It prog w A I n P OK X)
    (J : Nat → (Str → Option Value) → List Value → List (Addr × Obj) → Prop) (TS : Value → (Str → Option Value) → (Str → Option Value) → Prop)
    (asg : ∀ (E' : Value → Shared → Prop) i v s₁ oI oC mC ys own (Q' : Unit → Shared → Prop), P i v → J i mC ys own → LCg.NsObj oC mC → OK (i + 1) oI → Fr s₀.heap L s₁.heap m → News s₀.heap L s₁.heap ((I, oI) :: (C, oC) :: (D, LCg.lst ys) :: own) → LCg.Off3 I C D own →
      (∀ h' tk oC' mC', TS v mC mC' → LCg.NsObj oC' mC' → Fr s₀.heap L h' m → News s₀.heap L h' ((I, oI) :: (C, oC') :: (D, LCg.lst ys) :: own) → Q' () { s₁ with heap := h', toks := tk }) →
      wpAny (model prog w) A (letOwnedTupleGo target (.ref I) v) (fun _ s₂ => wpAny (model prog w) A (assign target (compEnvC scope cl C env) v) Q' E' s₂) E' s₁)
    (hX : ∀ i mC ys own h, J i mC ys own → Fr s₀.heap L h m → News s₀.heap L h own → X h) (hsz : ∀ i mC ys own, J i mC ys own → ys.length ≤ 1000)
    {oI oC : Obj} {mC : Str → Option Value} {ys : List Value} {own : List (Addr × Obj)} (hC : LCg.NsObj oC mC) (hJ : J 0 mC ys own) (hO : OK 0 oI)
    (F : Fr s₀.heap L s.heap m) (N : News s₀.heap L s.heap ((I, oI) :: (C, oC) :: (D, LCg.lst ys) :: own)) (off : LCg.Off3 I C D own) (ne : (@Ne Nat I C) ∧ (@Ne Nat I D) ∧ (@Ne Nat C D)) (R : Rs s₀.gens s₀.os s.gens s.os)
    (turn : ∀ (E' : Value → Shared → Prop) i v s₁ oI oC mC mC' ys own, i < n → P i v → J i mC ys own → TS v mC mC' → OK (i + 1) oI → LCg.NsObj oC mC' → Fr s₀.heap L s₁.heap m → News s₀.heap L s₁.heap ((I, oI) :: (C, oC) :: (D, LCg.lst ys) :: own) → LCg.Off3 I C D own →
      Rs s₀.gens s₀.os s₁.gens s₁.os →
      wpAny (model prog w) A (forIn ifs true fun c r => if r = true then do let ok ← isTrue c (compEnvC scope cl C env) (eval c (compEnvC scope cl C env)); pure (ForInStep.yield ok) else pure (ForInStep.yield r)) (fun ok s₂ =>
        if ok = true then wpAny (model prog w) A (eval elt (compEnvC scope cl C env)) (fun y s₃ => CEnd s₀ L I C D m oI ys (fun mC own => J (i + 1) mC (ys ++ [y]) own) s₃) E' s₂
        else CEnd s₀ L I C D m oI ys (fun mC own => J (i + 1) mC ys own) s₂) E' s₁) :
    codeAny (model prog w) A (.compLoop (.ListComp elt gens scope pos) d (.ref I) (.ref D) (compEnvC scope cl C env)) (CDone s₀ L C D m (J n)) s := by
  refine loop_last hg hg2 (fun k s' => ∃ i oI oC mC ys own, i ≤ n ∧ k = n - i ∧ LCg.NsObj oC mC ∧ J i mC ys own ∧ OK i oI ∧ Fr s₀.heap L s'.heap m ∧ News s₀.heap L s'.heap ((I, oI) :: (C, oC) :: (D, LCg.lst ys) :: own) ∧ LCg.Off3 I C D own ∧ Rs s₀.gens s₀.os s'.gens s'.os)
    ?_ n ⟨0, oI, oC, mC, ys, own, Nat.zero_le _, rfl, hC, hJ, hO, F, N, off, R⟩
  rintro k s' ⟨i, oI, oC, mC, ys, own, hi, rfl, hC, hJ, hO, F, N, off, R⟩
  have off' := off.mem
  have hoff1 : ∀ p ∈ (C, oC) :: (D, LCg.lst ys) :: own, p.1 ≠ I := by
    intro p hp
    simp only [List.mem_cons] at hp
    rcases hp with rfl | rfl | hp
    · exact Ne.symm ne.1
    · exact Ne.symm ne.2.1
    · exact (off' p hp).1
  have Nown : News s₀.heap L s'.heap own := fun p hp => N p (.tail _ (.tail _ (.tail _ hp)))
  by_cases hlt : i < n
  · refine W.item _ i s' oI _ hlt hO (N _ (.head _)).1 (hX i mC ys own _ hJ F Nown) fun v h' tk o' hP hO' hget hs' => ?_
    have F1 := fr_same F (N _ (.head _)).2.1 (N _ (.head _)).2.2 hs'
    have N1 : News s₀.heap L h' ((I, o') :: (C, oC) :: (D, LCg.lst ys) :: own) := News.setHead N hoff1 hs' hget
    refine asg _ i v { s' with heap := h', toks := tk } o' oC mC ys own _ hP hJ hC hO' F1 N1 off fun h2 tk2 oC2 mC2 hTS hC2 F2 N2 => ?_
    refine wpAny_mono (turn _ i v _ o' oC2 mC mC2 ys own hlt hP hJ hTS hO' hC2 F2 N2 off R) (fun ok s₃ h₃ => ?_) fun _ _ e => e
    cases ok with
    | false =>
      obtain ⟨oC4, mC4, own4, hC4, hJ4, F4, N4, off4, R4⟩ := h₃
      exact ⟨n - (i + 1), by omega, i + 1, o', oC4, mC4, ys, own4, hlt, rfl, hC4, hJ4, hO', F4, N4, off4, R4⟩
    | true =>
      refine wpAny_mono h₃ (fun y s₄ h₄ => ?_) fun _ _ e => e
      obtain ⟨oC4, mC4, own4, hC4, hJ4, F4, N4, off4, R4⟩ := h₄
      have hl := hsz _ _ _ _ hJ
      have zD := (N4 (D, LCg.lst ys) (.tail _ (.tail _ (.head _))))
      refine append_at (hsz := by show ys.toArray.size ≤ sizeLine; rw [List.size_toArray, sizeLine_eq]; omega) zD.1 fun h₅ hs₅ hD₅ => ?_
      have off4' := off4.mem
      refine ⟨n - (i + 1), by omega, i + 1, o', oC4, mC4, ys ++ [y], own4, hlt, rfl, hC4, hJ4, hO', fr_same F4 zD.2.1 zD.2.2 hs₅, ?_, off4, R4⟩
      intro p hp
      simp only [List.mem_cons] at hp
      rcases hp with rfl | rfl | rfl | hp
      · exact ⟨hs₅.extBut _ _ ne.2.1 (N4 _ (.head _)).1, (N4 _ (.head _)).2⟩
      · exact ⟨hs₅.extBut _ _ ne.2.2 (N4 _ (.tail _ (.head _))).1, (N4 _ (.tail _ (.head _))).2⟩
      · exact ⟨hD₅.trans (congrArg some (LCg.lst_snoc ys y)), zD.2⟩
      · have z := N4 p (.tail _ (.tail _ (.tail _ hp)))
        exact ⟨hs₅.extBut _ _ (off4' p hp).2.2 z.1, z.2⟩
  · obtain rfl : i = n := by omega
    refine W.last _ s' oI _ hO (N _ (.head _)).1 (hX i mC ys own _ hJ F Nown) fun h' tk he' => ?_
    refine ⟨rfl, oC, mC, ys, own, hC, hJ, fr_ext3 F N he', ?_, fun p hp => (off' p hp).2, R⟩
    exact news_ext N hoff1 he'

theorem comp_more {target2 iter2 : Expr} {ifs2 : List Expr} (hg : gens[d]? = some ⟨target, iter, ifs, 0⟩) (hg2 : gens[d + 1]? = some ⟨target2, iter2, ifs2, 0⟩) (hs : ∀ x, foldedSetIterable iter2 (compEnvC scope cl C env) x = pure x) (W : It prog w A I n P OK X)
    (J : Nat → (Str → Option Value) → List Value → List (Addr × Obj) → Prop) (TS : Value → (Str → Option Value) → (Str → Option Value) → Prop)
    (asg : ∀ (E' : Value → Shared → Prop) i v s₁ oI oC mC ys own (Q' : Unit → Shared → Prop), P i v → J i mC ys own → LCg.NsObj oC mC → OK (i + 1) oI → Fr s₀.heap L s₁.heap m → News s₀.heap L s₁.heap ((I, oI) :: (C, oC) :: (D, LCg.lst ys) :: own) → LCg.Off3 I C D own →
      (∀ h' tk oC' mC', TS v mC mC' → LCg.NsObj oC' mC' → Fr s₀.heap L h' m → News s₀.heap L h' ((I, oI) :: (C, oC') :: (D, LCg.lst ys) :: own) → Q' () { s₁ with heap := h', toks := tk }) →
      wpAny (model prog w) A (letOwnedTupleGo target (.ref I) v) (fun _ s₂ => wpAny (model prog w) A (assign target (compEnvC scope cl C env) v) Q' E' s₂) E' s₁)
    (hX : ∀ i mC ys own h, J i mC ys own → Fr s₀.heap L h m → News s₀.heap L h own → X h)
    {oI oC : Obj} {mC : Str → Option Value} {ys : List Value} {own : List (Addr × Obj)} (hC : LCg.NsObj oC mC) (hJ : J 0 mC ys own) (hO : OK 0 oI)
    (F : Fr s₀.heap L s.heap m) (N : News s₀.heap L s.heap ((I, oI) :: (C, oC) :: (D, LCg.lst ys) :: own)) (off : LCg.Off3 I C D own) (ne : (@Ne Nat I C) ∧ (@Ne Nat I D) ∧ (@Ne Nat C D)) (R : Rs s₀.gens s₀.os s.gens s.os)
    (turn : ∀ (E' : Value → Shared → Prop) i v s₁ oI oC mC mC' ys own, i < n → P i v → J i mC ys own → TS v mC mC' → OK (i + 1) oI → LCg.NsObj oC mC' → Fr s₀.heap L s₁.heap m → News s₀.heap L s₁.heap ((I, oI) :: (C, oC) :: (D, LCg.lst ys) :: own) → LCg.Off3 I C D own →
      Rs s₀.gens s₀.os s₁.gens s₁.os →
      wpAny (model prog w) A (forIn ifs true fun c r => if r = true then do let ok ← isTrue c (compEnvC scope cl C env) (eval c (compEnvC scope cl C env)); pure (ForInStep.yield ok) else pure (ForInStep.yield r)) (fun ok s₂ =>
        ok = true ∧ wpAny (model prog w) A (eval iter2 (compEnvC scope cl C env)) (fun x s₃ => wpAny (model prog w) A (pyIter x) (fun it2 s₄ =>
          codeAny (model prog w) A (.compStart (.ListComp elt gens scope pos) (d + 1) it2 (.ref D) (compEnvC scope cl C env)) (CDone s₀ L C D m (fun mC ys own' => ∃ own, own' = (I, oI) :: own ∧ LCg.Off3 I C D own ∧ J (i + 1) mC ys own)) s₄) E' s₃) E' s₂) E' s₁) :
    codeAny (model prog w) A (.compLoop (.ListComp elt gens scope pos) d (.ref I) (.ref D) (compEnvC scope cl C env)) (CDone s₀ L C D m (J n)) s := by
  refine loop_more hg hg2 hs (fun k s' => ∃ i oI oC mC ys own, i ≤ n ∧ k = n - i ∧ LCg.NsObj oC mC ∧ J i mC ys own ∧ OK i oI ∧ Fr s₀.heap L s'.heap m ∧ News s₀.heap L s'.heap ((I, oI) :: (C, oC) :: (D, LCg.lst ys) :: own) ∧ LCg.Off3 I C D own ∧ Rs s₀.gens s₀.os s'.gens s'.os)
    ?_ n ⟨0, oI, oC, mC, ys, own, Nat.zero_le _, rfl, hC, hJ, hO, F, N, off, R⟩
  rintro k s' ⟨i, oI, oC, mC, ys, own, hi, rfl, hC, hJ, hO, F, N, off, R⟩
  have off' := off.mem
  have hoff1 : ∀ p ∈ (C, oC) :: (D, LCg.lst ys) :: own, p.1 ≠ I := by
    intro p hp
    simp only [List.mem_cons] at hp
    rcases hp with rfl | rfl | hp
    · exact Ne.symm ne.1
    · exact Ne.symm ne.2.1
    · exact (off' p hp).1
  have Nown : News s₀.heap L s'.heap own := fun p hp => N p (.tail _ (.tail _ (.tail _ hp)))
  by_cases hlt : i < n
  · refine W.item _ i s' oI _ hlt hO (N _ (.head _)).1 (hX i mC ys own _ hJ F Nown) fun v h' tk o' hP hO' hget hs' => ?_
    have F1 := fr_same F (N _ (.head _)).2.1 (N _ (.head _)).2.2 hs'
    have N1 : News s₀.heap L h' ((I, o') :: (C, oC) :: (D, LCg.lst ys) :: own) := News.setHead N hoff1 hs' hget
    refine asg _ i v { s' with heap := h', toks := tk } o' oC mC ys own _ hP hJ hC hO' F1 N1 off fun h2 tk2 oC2 mC2 hTS hC2 F2 N2 => ?_
    refine wpAny_mono (turn _ i v _ o' oC2 mC mC2 ys own hlt hP hJ hTS hO' hC2 F2 N2 off R) (fun ok s₃ h₃ => ?_) fun _ _ e => e
    obtain ⟨rfl, h₃⟩ := h₃
    refine wpAny_mono h₃ (fun x s₄ h₄ => wpAny_mono h₄ (fun it2 s₅ h₅ => codeAny_mono h₅ fun r s₆ h₆ => ?_) fun _ _ e => e) fun _ _ e => e
    obtain ⟨rfl, oC4, mC4, ys4, own4', hC4, ⟨own4, rfl, off4, hJ4⟩, F4, N4, offN, R4⟩ := h₆
    refine ⟨n - (i + 1), by omega, i + 1, o', oC4, mC4, ys4, own4, hlt, rfl, hC4, hJ4, hO', F4, ?_, off4, R4⟩
    intro p hp
    simp only [List.mem_cons] at hp
    rcases hp with rfl | rfl | rfl | hp
    · exact N4 _ (.tail _ (.tail _ (.head _)))
    · exact N4 _ (.head _)
    · exact N4 _ (.tail _ (.head _))
    · exact N4 _ (.tail _ (.tail _ (.tail _ hp)))
  · obtain rfl : i = n := by omega
    refine W.last _ s' oI _ hO (N _ (.head _)).1 (hX i mC ys own _ hJ F Nown) fun h' tk he' => ?_
    refine ⟨rfl, oC, mC, ys, own, hC, hJ, fr_ext3 F N he', ?_, fun p hp => (off' p hp).2, R⟩
    exact news_ext N hoff1 he'

/-- the comprehension from its iterator on -/
noncomputable def CGo (prog : Program) (w : World) (A : Around) (E : Value → Shared → Prop) (elt : Expr) (gens : List Comprehension) (scope : Scope) (pos : Pos) (cl : List (Str × Addr)) (env : Env) (use : Option (Value → Sem Unit)) (Q : Value → Shared → Prop) (it : Value) (s₂ : Shared) : Prop :=
  wpAny (model prog w) A (newList []) (fun acc s₃ => wpAny (model prog w) A (newFunctionEnv scope env.globals cl [] env.qual none .none (some env)) (fun cenv s₄ =>
    codeAny (model prog w) A (.compStart (.ListComp elt gens scope pos) 0 it acc { cenv with scope := relabel scope env }) (compPost (model prog w) A E use Q acc cenv.locals) s₄) E s₃) E s₂
theorem lc_go {E : Value → Shared → Prop} {Q : Value → Shared → Prop} {rest : List Comprehension} (hclos : closureFor scope env = pure cl) (hkind : scope.kind = .function)
    (hnames : ∀ y ∈ scope.names, y.2 = .local → scope.names.lookup y.1 = some .local)
    (h : wpAny (model prog w) A (eval iter env) (fun x s₁ => wpAny (model prog w) A (pyIter x) (CGo prog w A E elt (⟨target, iter, ifs, 0⟩ :: rest) scope pos cl env none Q) E s₁) E s)
    (hs : ∀ x, foldedSetIterable iter env x = pure x := by intro _; rfl) :
    wpAny (model prog w) A (eval (.ListComp elt (⟨target, iter, ifs, 0⟩ :: rest) scope pos) env) Q E s := by
  rw [eval_ListComp]
  exact wpAny_comprehension_free (use := none) rfl hs hclos hkind hnames h
theorem lc_assign {E : Value → Shared → Prop} {Q : Flow → Shared → Prop} {rest : List Comprehension} {y : Str} {py spos : Pos}
    (hsw : swapsWith (.ListComp elt (⟨target, iter, ifs, 0⟩ :: rest) scope pos) (some (.Name y py)) spos.line env = pure true) (hclos : closureFor scope env = pure cl) (hkind : scope.kind = .function)
    (hnames : ∀ y ∈ scope.names, y.2 = .local → scope.names.lookup y.1 = some .local)
    (h : wpAny (model prog w) A (eval iter env) (fun x s₁ => wpAny (model prog w) A (pyIter x) (CGo prog w A E elt (⟨target, iter, ifs, 0⟩ :: rest) scope pos cl env (some (assign (.Name y py) env)) (fun _ s' => Q .next s')) E s₁) E s)
    (hs : ∀ x, foldedSetIterable iter env x = pure x := by intro _; rfl) :
    wpAny (model prog w) A (exec (.Assign [.Name y py] (.ListComp elt (⟨target, iter, ifs, 0⟩ :: rest) scope pos) spos) env) Q E s := by
  rw [exec_Assign_Name_used _ _ _ _ hsw]
  refine wpAny_bind (wpAny_standAt (wpAny_bind ?_))
  show wpAny _ A (do let _ ← comprehension (.ListComp elt (⟨target, iter, ifs, 0⟩ :: rest) scope pos) scope env _ (newList []) false (eval iter env) (some (assign (.Name y py) env))) _ _ s
  exact wpAny_bind (wpAny_mono (wpAny_comprehension_free (use := some (assign (.Name y py) env)) (Q := fun _ s' => Q .next s') rfl hs hclos hkind hnames h) (fun _ s' hq => wpAny_pure (wpAny_pure hq)) fun _ _ e => e)
theorem cgo_intro {E : Value → Shared → Prop} {Q : Value → Shared → Prop} {rest : List Comprehension} {use : Option (Value → Sem Unit)} {oI : Obj} {news : List (Addr × Obj)}
    (hcell : ∀ y ∈ scope.names, y.2 ≠ .cell) (hkind : scope.kind = .function) (W : It prog w A I n P OK X) (hO : OK 0 oI)
    (F : Fr s₀.heap L s.heap m) (N : News s₀.heap L s.heap ((I, oI) :: news)) (offI : ∀ p ∈ news, p.1 ≠ I)
    (K : (Str → Option Value) → List Value → List (Addr × Obj) → Prop)
    (loop : ∀ C D oC s₁, LCg.NsObj oC (fun _ => none) → Fr s₀.heap L s₁.heap m → News s₀.heap L s₁.heap ((I, oI) :: (C, oC) :: (D, LCg.lst []) :: news) → LCg.Off3 I C D news → ((@Ne Nat I C) ∧ (@Ne Nat I D) ∧ (@Ne Nat C D)) → s₁.gens = s.gens → s₁.os = s.os →
      codeAny (model prog w) A (.compLoop (.ListComp elt (⟨target, iter, ifs, 0⟩ :: rest) scope pos) 0 (.ref I) (.ref D) (compEnvC scope cl C env)) (CDone s₀ L C D m K) s₁)
    (fin : ∀ C D s₁, C ≠ D → C ≠ L → CDone s₀ L C D m K (.ok .next) s₁ → compPost (model prog w) A E use Q (.ref D) C (.ok .next) s₁) :
    CGo prog w A E elt (⟨target, iter, ifs, 0⟩ :: rest) scope pos cl env use Q (.ref I) s := by
  refine wpAny_newObj_type (wpAny_newFunctionEnv hcell (by intro y hy; simp at hy) (fun h₁ hns₁ hsb₁ => ?_) hkind)
  dsimp only at hns₁ hsb₁ ⊢
  generalize hH2 : s.heap.push { cls := .type "list", dict := none, data := .seq ([] : List Value).toArray } = H2 at hns₁ hsb₁ ⊢
  have hC : H2.objs.size = s.heap.objs.size + 1 := by rw [← hH2, Heap.size_push]
  have hDC : s.heap.objs.size ≠ H2.objs.size := by rw [hC]; exact Nat.ne_of_lt (Nat.lt_succ_self _)
  have below : ∀ b, b < s.heap.objs.size → b ≠ H2.objs.size ∧ b ≠ s.heap.objs.size := fun b hb => ⟨by rw [hC]; exact Nat.ne_of_lt (Nat.lt_succ_of_lt hb), Nat.ne_of_lt hb⟩
  have old : ∀ b o, s.heap.get? b = some o → h₁.get? b = some o := fun b o e => hsb₁.extBut b o (below b (Heap.lt_size e)).1 (Heap.get?_push_of_some _ (hH2 ▸ Heap.get?_push_of_some _ e))
  have hacc : h₁.get? s.heap.objs.size = some (LCg.lst []) := hsb₁.extBut _ _ hDC (Heap.get?_push_of_some _ (hH2 ▸ Heap.get?_push_size _ rfl))
  have fresh₀ : ∀ a, s.heap.objs.size ≤ a → s₀.heap.get? a = none := fun a ha => by
    cases e : s₀.heap.get? a with
    | none => rfl
    | some o' => exact absurd (Heap.lt_size (F.keep a o' e)) (Nat.not_lt.mpr ha)
  have hLlt : L < s.heap.objs.size := F.ns.lt
  have hCle : s.heap.objs.size ≤ H2.objs.size := by rw [hC]; exact Nat.le_succ _
  have hIlt : I < s.heap.objs.size := Heap.lt_size (N _ (.head _)).1
  obtain ⟨oC, heC, hoC⟩ := LCg.ns_obj hns₁
  have hne : (@Ne Nat I H2.objs.size) ∧ (@Ne Nat I s.heap.objs.size) ∧ (@Ne Nat H2.objs.size s.heap.objs.size) := ⟨(below I hIlt).1, (below I hIlt).2, Ne.symm hDC⟩
  have off : LCg.Off3 I H2.objs.size s.heap.objs.size news := LCg.Off3.of fun p hp => ⟨offI p hp, (below _ (Heap.lt_size (N p (.tail _ hp)).1)).1, (below _ (Heap.lt_size (N p (.tail _ hp)).1)).2⟩
  have key : ∀ s₃ : Shared, s₃ = { s with heap := h₁, toks := s.toks + ([] : List (Str × Value)).length } →
      codeAny (model prog w) A (.compLoop (.ListComp elt (⟨target, iter, ifs, 0⟩ :: rest) scope pos) 0 (.ref I) (.ref s.heap.objs.size) (compEnvC scope cl H2.objs.size env)) (compPost (model prog w) A E use Q (.ref s.heap.objs.size) H2.objs.size) s₃ := by
    rintro s₃ rfl
    refine codeAny_mono (loop H2.objs.size s.heap.objs.size oC _ hoC (F.keeps old) ?_ off hne rfl rfl) fun r s' hr => ?_
    · intro p hp
      simp only [List.mem_cons] at hp
      rcases hp with rfl | rfl | rfl | hp
      · exact ⟨old _ _ (N _ (.head _)).1, (N _ (.head _)).2⟩
      · exact ⟨heC, Ne.symm (below L hLlt).1, fresh₀ _ hCle⟩
      · exact ⟨hacc, Ne.symm (below L hLlt).2, fresh₀ _ (Nat.le_refl _)⟩
      · exact ⟨old _ _ (N p (.tail _ hp)).1, (N p (.tail _ hp)).2⟩
    · obtain ⟨rfl, hr'⟩ := id hr
      exact fin _ _ _ (Ne.symm hDC) (Ne.symm (below L hLlt).1) ⟨rfl, hr'⟩
  refine start_any (d := 0) rfl (key _ rfl) ?_
  exact W.self _ _ oI _ hO (old _ _ (N _ (.head _)).1) (key _ rfl)
theorem fin_none {E : Value → Shared → Prop} {Q : Value → Shared → Prop} {K : (Str → Option Value) → List Value → List (Addr × Obj) → Prop}
    (h : ∀ D mC ys own s₁, K mC ys own → Fr s₀.heap L s₁.heap m → News s₀.heap L s₁.heap ((D, LCg.lst ys) :: own) → (∀ p ∈ own, p.1 ≠ D) → Rs s₀.gens s₀.os s₁.gens s₁.os → Q (.ref D) s₁) :
    ∀ C D s₁, C ≠ D → C ≠ L → CDone s₀ L C D m K (.ok .next) s₁ → compPost (model prog w) A E none Q (.ref D) C (.ok .next) s₁ := by
  rintro C D s₁ hCD hCL ⟨_, oC, mC, ys, own, hC, hK, F, N, off, R⟩
  have zC := N _ (.head _)
  refine ⟨mC, hC.ns zC.1, fun h' hs => h D mC ys own { s₁ with heap := h' } hK (fr_same F zC.2.1 zC.2.2 hs) (fun p hp => ⟨hs.extBut _ _ ?_ (N p (.tail _ hp)).1, (N p (.tail _ hp)).2⟩) (fun p hp => (off p hp).2) R⟩
  rcases List.mem_cons.mp hp with rfl | hp
  · exact Ne.symm hCD
  · exact (off p hp).1
theorem fin_assign {E : Value → Shared → Prop} {Q : Value → Shared → Prop} {K : (Str → Option Value) → List Value → List (Addr × Obj) → Prop} {y : Str} {py : Pos} (hL : env.locals = L) (hy : env.kindOf y = some .local)
    (hp : (env.scope.kind == .class || (env.scope.kind == .module && env.locals != env.globals)) = false)
    (h : ∀ D mC ys own s₁, K mC ys own → Fr s₀.heap L s₁.heap (fun z => if z = y then some (.ref D) else m z) → News s₀.heap L s₁.heap ((D, LCg.lst ys) :: own) → (∀ p ∈ own, p.1 ≠ D) → Rs s₀.gens s₀.os s₁.gens s₁.os → Q .none s₁) :
    ∀ C D s₁, C ≠ D → C ≠ L → CDone s₀ L C D m K (.ok .next) s₁ → compPost (model prog w) A E (some (assign (.Name y py) env)) Q (.ref D) C (.ok .next) s₁ := by
  rintro C D s₁ hCD hCL ⟨_, oC, mC, ys, own, hC, hK, F, N, off, R⟩
  subst hL
  have zC := N _ (.head _)
  show wpAny _ A (assign (.Name y py) env (.ref D)) _ _ _
  refine wpAny_assign_Name (wpAny_storeName_local hy F.ns (fun h₂ hn₂ hs₂ => ?_) hp)
  have F₂ := F.set hn₂ hs₂
  have N₂ := N.set hs₂
  have zC₂ := N₂ _ (.head _)
  refine ⟨mC, hC.ns zC₂.1, fun h' hs => h D mC ys own _ hK (fr_same F₂ zC₂.2.1 zC₂.2.2 hs) (fun p hp => ⟨hs.extBut _ _ ?_ (N₂ p (.tail _ hp)).1, (N₂ p (.tail _ hp)).2⟩) (fun p hp => (off p hp).2) R⟩
  rcases List.mem_cons.mp hp with rfl | hp
  · exact Ne.symm hCD
  · exact (off p hp).1
/-- a name as the clause's target -/
noncomputable def TSN (x : Str) (v : Value) (mC mC' : Str → Option Value) : Prop := mC' = fun z => if z = x then some v else mC z
theorem asg_comp {x : Str} {px : Pos} (hx : scope.names.lookup x = some .local) (hkind : scope.kind = .function) (hgo : ∀ v, letOwnedTupleGo (.Name x px) (.ref I) v = pure ()) (hne : (@Ne Nat I C) ∧ (@Ne Nat C D))
    {J : Nat → (Str → Option Value) → List Value → List (Addr × Obj) → Prop} :
    ∀ (E' : Value → Shared → Prop) i v s₁ oI oC mC ys own (Q' : Unit → Shared → Prop), P i v → J i mC ys own → LCg.NsObj oC mC → OK (i + 1) oI → Fr s₀.heap L s₁.heap m → News s₀.heap L s₁.heap ((I, oI) :: (C, oC) :: (D, LCg.lst ys) :: own) → LCg.Off3 I C D own →
      (∀ h' tk oC' mC', TSN x v mC mC' → LCg.NsObj oC' mC' → Fr s₀.heap L h' m → News s₀.heap L h' ((I, oI) :: (C, oC') :: (D, LCg.lst ys) :: own) → Q' () { s₁ with heap := h', toks := tk }) →
      wpAny (model prog w) A (letOwnedTupleGo (.Name x px) (.ref I) v) (fun _ s₂ => wpAny (model prog w) A (assign (.Name x px) (compEnvC scope cl C env) v) Q' E' s₂) E' s₁ := by
  intro E' i v s₁ oI oC mC ys own Q' _ _ hC _ F N off hQ
  rw [hgo v]
  refine wpAny_pure ?_
  have zC := N (C, oC) (.tail _ (.head _))
  refine wpAny_assign_Name (wpAny_storeName_local (lookup_relabel_local hx) (hC.ns zC.1) (fun h₃ hn₃ hs₃ => ?_) (by simp [compEnvC, relabel, hkind]))
  obtain ⟨oC3, heC3, hoC3⟩ := LCg.ns_obj hn₃
  refine hQ h₃ _ oC3 _ rfl hoC3 (fr_same F zC.2.1 zC.2.2 hs₃) fun p hp => ?_
  have off' := off.mem
  simp only [List.mem_cons] at hp
  rcases hp with rfl | rfl | rfl | hp
  · exact ⟨hs₃.extBut _ _ hne.1 (N _ (.head _)).1, (N _ (.head _)).2⟩
  · exact ⟨heC3, zC.2⟩
  · exact ⟨hs₃.extBut _ _ (Ne.symm hne.2) (N _ (.tail _ (.tail _ (.head _)))).1, (N _ (.tail _ (.tail _ (.head _)))).2⟩
  · exact ⟨hs₃.extBut _ _ (off' p hp).2.1 (N p (.tail _ (.tail _ (.tail _ hp)))).1, (N p (.tail _ (.tail _ (.tail _ hp)))).2⟩
end

section
variable {prog : Program} {w : World} {A : Around} {env : Env} {target : Expr} {body : List Stmt} {Q : Flow → Shared → Prop} {E : Value → Shared → Prop} {s : Shared} {s₀ : Shared} {m : Str → Option Value} {news : List (Addr × Obj)}
  {L I : Addr} {n : Nat} {P : Nat → Value → Prop} {OK : Nat → Obj → Prop} {X : Heap → Prop}
/-- a for over any of the iterators, any target -/
theorem for_it {oI : Obj} (W : It prog w A I n P OK X) (J : Nat → (Str → Option Value) → List (Addr × Obj) → Prop) (TS : Nat → Value → (Str → Option Value) → (Str → Option Value) → Prop)
    (asg : ∀ (E' : Value → Shared → Prop) i v s₁ o m₁ own₁ (Q' : Unit → Shared → Prop), i < n → P i v → J i m₁ own₁ → OK (i + 1) o → Fr s₀.heap L s₁.heap m₁ → News s₀.heap L s₁.heap ((I, o) :: own₁) → (∀ p ∈ own₁, p.1 ≠ I) →
      (∀ h' tk m', TS i v m₁ m' → Fr s₀.heap L h' m' → News s₀.heap L h' ((I, o) :: own₁) → Q' () { s₁ with heap := h', toks := tk }) →
      wpAny (model prog w) A (letOwnedTupleGo target (.ref I) v) (fun _ s₂ => wpAny (model prog w) A (assign target env v) Q' E' s₂) E' s₁)
    (hX : ∀ i m₁ own₁ h, J i m₁ own₁ → Fr s₀.heap L h m₁ → News s₀.heap L h own₁ → X h)
    (hJ : J 0 m news) (hO : OK 0 oI) (F : Fr s₀.heap L s.heap m) (N : News s₀.heap L s.heap ((I, oI) :: news)) (hoff : ∀ p ∈ news, p.1 ≠ I) (R : Rs s₀.gens s₀.os s.gens s.os)
    (turn : ∀ (E' : Value → Shared → Prop) i v s₁ m₁ m₂ own₁ o, i < n → P i v → J i m₁ own₁ → TS i v m₁ m₂ → OK (i + 1) o → Fr s₀.heap L s₁.heap m₂ → News s₀.heap L s₁.heap ((I, o) :: own₁) →
      Rs s₀.gens s₀.os s₁.gens s₁.os → (∀ p ∈ own₁, p.1 ≠ I) → wpAny (model prog w) A (execs body env) (TurnEnd s₀ L I o (J (i + 1)) Q) E' s₁)
    (done : ∀ s₁ m₁ own₁, J n m₁ own₁ → Fr s₀.heap L s₁.heap m₁ → News s₀.heap L s₁.heap own₁ → Rs s₀.gens s₀.os s₁.gens s₁.os → Q .next s₁) :
    codeAny (model prog w) A (.forLoop target (.ref I) body [] env) (fun r s' => match r with | .ok f => Q f s' | .error e => cameBackBy (model prog w) A env E e s') s := by
  refine for_genT (n := n) (fun i s₁ => ∃ m₁ own₁ o, J i m₁ own₁ ∧ OK i o ∧ Fr s₀.heap L s₁.heap m₁ ∧ News s₀.heap L s₁.heap ((I, o) :: own₁) ∧ Rs s₀.gens s₀.os s₁.gens s₁.os ∧ (∀ p ∈ own₁, p.1 ≠ I))
    ⟨m, news, oI, hJ, hO, F, N, R, hoff⟩ ?_ ?_
  · rintro E' i s₁ hi ⟨m₁, own₁, o, hJ₁, hO, F₁, N₁, R₁, off₁⟩
    refine W.item E' i s₁ o _ hi hO (N₁ _ (.head _)).1 (hX i m₁ own₁ _ hJ₁ F₁ N₁.tail') fun v h' tk o' hP hO' hget hs' => ⟨v, rfl, ?_⟩
    have F2 := fr_same F₁ (N₁ _ (.head _)).2.1 (N₁ _ (.head _)).2.2 hs'
    have N2 := News.setHead N₁ off₁ hs' hget
    refine asg E' i v { s₁ with heap := h', toks := tk } o' m₁ own₁ _ hi hP hJ₁ hO' F2 N2 off₁ fun h₂ tk₂ m₂ hTS F₃ N₃ => ?_
    refine wpAny_mono (turn E' i v _ m₁ m₂ own₁ o' hi hP hJ₁ hTS hO' F₃ N₃ R₁ off₁) (fun f s₄ h₄ => ?_) fun _ _ e => e
    cases f with
    | next => obtain ⟨m₄, own₄, a, b, c, d, e⟩ := h₄; exact ⟨m₄, own₄, o', a, hO', b, c, d, e⟩
    | cont => obtain ⟨m₄, own₄, a, b, c, d, e⟩ := h₄; exact ⟨m₄, own₄, o', a, hO', b, c, d, e⟩
    | brk => exact h₄
    | ret v => exact h₄
  · rintro E' s₁ ⟨m₁, own₁, o, hJ₁, hO, F₁, N₁, R₁, off₁⟩
    refine W.last E' s₁ o _ hO (N₁ _ (.head _)).1 (hX n m₁ own₁ _ hJ₁ F₁ N₁.tail') fun h' tk he' => ⟨rfl, ?_⟩
    exact done _ m₁ own₁ hJ₁ (fr_ext F₁ (N₁ _ (.head _)).2.1 (N₁ _ (.head _)).2.2 he') (news_ext N₁ off₁ he') R₁
theorem letgo_tu {elts : List Expr} {k : Nat} {pos : Pos} {v : Value} {Q' : Unit → Shared → Prop} {E' : Value → Shared → Prop} {s₁ : Shared} {o : Obj} {t : String} {vs : Array Value} (ho : s₁.heap.get? I = some o) (hc : o.cls = .type t) (hd : o.data = .fields vs)
    (ht : (["enumerate", "zip", "dict_itemiterator", "dict_reverseitemiterator", "odict_iterator", "itertools.zip_longest", "itertools.pairwise"].contains t) = false) (h : Q' () s₁) :
    wpAny (model prog w) A (letOwnedTupleGo (.Tuple elts k pos) (.ref I) v) Q' E' s₁ := by
  unfold letOwnedTupleGo
  cases v with
  | ref T =>
    refine wpAny_bind (wpAny_load ho ?_)
    rw [hc, hd]
    show wpAny _ _ (if (_ && _) = true then _ else _) _ _ _
    rw [if_neg (by rw [ht]; simp)]
    exact wpAny_pure h
  | _ => exact wpAny_pure h
/-- a pair's two names, a tuple that the base holds -/
noncomputable def TSP (items : Array Value) (h₀ : Heap) (a b : Str) (i : Nat) (_ : Value) (m m' : Str → Option Value) : Prop := ∃ T v1 v2, items[i]? = some (.ref T) ∧ h₀.IsTuple T #[v1, v2] ∧ m' = fun y => if y = b then some v2 else if y = a then some v1 else m y
theorem asg_pair_list {a b : Str} {pa pb pos : Pos} {k : Nat} {l : Addr} {items : Array Value} (hh : A.handled = none) (hL : env.locals = L) (ha : env.kindOf a = some .local) (hb : env.kindOf b = some .local)
    (hp : (env.scope.kind == .class || (env.scope.kind == .module && env.locals != env.globals)) = false)
    (hT : ∀ (i : Nat) v, items[i]? = some v → ∃ T v1 v2, v = .ref T ∧ s₀.heap.IsTuple T #[v1, v2]) {J : Nat → (Str → Option Value) → List (Addr × Obj) → Prop} :
    ∀ (E' : Value → Shared → Prop) i v s₁ o m₁ own₁ (Q' : Unit → Shared → Prop), i < n → (fun (i : Nat) v => items[i]? = some v) i v → J i m₁ own₁ → (fun i o => IsLI o l i) (i + 1) o → Fr s₀.heap L s₁.heap m₁ → News s₀.heap L s₁.heap ((I, o) :: own₁) → (∀ p ∈ own₁, p.1 ≠ I) →
      (∀ h' tk m', TSP items s₀.heap a b i v m₁ m' → Fr s₀.heap L h' m' → News s₀.heap L h' ((I, o) :: own₁) → Q' () { s₁ with heap := h', toks := tk }) →
      wpAny (model prog w) A (letOwnedTupleGo (.Tuple [.Name a pa, .Name b pb] k pos) (.ref I) v) (fun _ s₂ => wpAny (model prog w) A (assign (.Tuple [.Name a pa, .Name b pb] k pos) env v) Q' E' s₂) E' s₁ := by
  intro E' i v s₁ o m₁ own₁ Q' _ hv _ hO F N _ hQ
  obtain ⟨T, v1, v2, rfl, hTup⟩ := hT i v hv
  refine letgo_tu (N _ (.head _)).1 hO.1 hO.2 (by decide) ?_
  have hTup1 : s₁.heap.IsTuple T #[v1, v2] := by obtain ⟨oT, e, r⟩ := hTup; exact ⟨oT, F.keep _ _ e, r⟩
  refine asg_pair hh hL ha hb hp hTup1 F N fun h' tk F' N' => hQ h' tk _ ⟨T, v1, v2, hv, hTup, rfl⟩ F' N'
theorem it_tup {h₀ : Heap} {l : Addr} {items : Array Value} {Q : Value → Shared → Prop} {E : Value → Shared → Prop} (hl : s.heap.IsTuple l items) (F : Fr h₀ L s.heap m) (N : News h₀ L s.heap news)
    (h : ∀ I h' o, IsTI o l 0 → Fr h₀ L h' m → News h₀ L h' ((I, o) :: news) → (∀ p ∈ news, p.1 < I) → Q (.ref I) { s with heap := h' }) :
    wpAny (model prog w) A (pyIter (.ref l)) Q E s := by
  refine wpAny_pyIter_tuple hl ?_
  have N1 := news_push F N { cls := .type "tuple_iterator", data := .fields #[.ref l, .int 0 0] } rfl
  exact h _ _ _ ⟨rfl, rfl⟩ (F.push _) N1.1 N1.2
noncomputable def TSM (x : Str) (_ : Nat) (v : Value) (m m' : Str → Option Value) : Prop := m' = fun y => if y = x then some v else m y
theorem asg_it_name {x : Str} {px : Pos} (hL : env.locals = L) (hx : env.kindOf x = some .local)
    (hp : (env.scope.kind == .class || (env.scope.kind == .module && env.locals != env.globals)) = false) (hgo : ∀ v, letOwnedTupleGo (.Name x px) (.ref I) v = pure ()) {J : Nat → (Str → Option Value) → List (Addr × Obj) → Prop} :
    ∀ (E' : Value → Shared → Prop) i v s₁ o m₁ own₁ (Q' : Unit → Shared → Prop), i < n → P i v → J i m₁ own₁ → OK (i + 1) o → Fr s₀.heap L s₁.heap m₁ → News s₀.heap L s₁.heap ((I, o) :: own₁) → (∀ p ∈ own₁, p.1 ≠ I) →
      (∀ h' tk m', TSM x i v m₁ m' → Fr s₀.heap L h' m' → News s₀.heap L h' ((I, o) :: own₁) → Q' () { s₁ with heap := h', toks := tk }) →
      wpAny (model prog w) A (letOwnedTupleGo (.Name x px) (.ref I) v) (fun _ s₂ => wpAny (model prog w) A (assign (.Name x px) env v) Q' E' s₂) E' s₁ := by
  subst hL
  intro E' i v s₁ o m₁ own₁ Q' _ _ _ _ F N _ hQ
  rw [hgo v]
  refine wpAny_pure ?_
  exact wpAny_assign_Name (wpAny_storeName_local hx F.ns (fun h' hn hs => hQ h' _ _ rfl (F.set hn hs) (N.set hs)) hp)
end

section
variable {prog : Program} {w : World} {A : Around} {s₀ : Shared} {scope : Scope} {cl : List (Str × Addr)} {env : Env} {L I C D : Addr} {m : Str → Option Value} {P : Nat → Value → Prop} {OK : Nat → Obj → Prop}
/-- a store into the clause's names -/
theorem st_comp {x : Str} {px : Pos} {v : Value} {s₁ : Shared} {oI oC oD : Obj} {mC : Str → Option Value} {own : List (Addr × Obj)} {E' : Value → Shared → Prop} {Q' : Unit → Shared → Prop} (hx : scope.names.lookup x = some .local) (hkind : scope.kind = .function) (hne : (@Ne Nat I C) ∧ (@Ne Nat C D))
    (hC : LCg.NsObj oC mC) (F : Fr s₀.heap L s₁.heap m) (N : News s₀.heap L s₁.heap ((I, oI) :: (C, oC) :: (D, oD) :: own)) (off : LCg.Off3 I C D own)
    (hQ : ∀ h' tk oC', LCg.NsObj oC' (fun z => if z = x then some v else mC z) → Fr s₀.heap L h' m → News s₀.heap L h' ((I, oI) :: (C, oC') :: (D, oD) :: own) → Q' () { s₁ with heap := h', toks := tk }) :
    wpAny (model prog w) A (assign (.Name x px) (compEnvC scope cl C env) v) Q' E' s₁ := by
  have zC := N (C, oC) (.tail _ (.head _))
  refine wpAny_assign_Name (wpAny_storeName_local (lookup_relabel_local hx) (hC.ns zC.1) (fun h₃ hn₃ hs₃ => ?_) (by simp [compEnvC, relabel, hkind]))
  obtain ⟨oC3, heC3, hoC3⟩ := LCg.ns_obj hn₃
  refine hQ h₃ _ oC3 hoC3 (fr_same F zC.2.1 zC.2.2 hs₃) fun p hp => ?_
  have off' := off.mem
  simp only [List.mem_cons] at hp
  rcases hp with rfl | rfl | rfl | hp
  · exact ⟨hs₃.extBut _ _ hne.1 (N _ (.head _)).1, (N _ (.head _)).2⟩
  · exact ⟨heC3, zC.2⟩
  · exact ⟨hs₃.extBut _ _ (Ne.symm hne.2) (N _ (.tail _ (.tail _ (.head _)))).1, (N _ (.tail _ (.tail _ (.head _)))).2⟩
  · exact ⟨hs₃.extBut _ _ (off' p hp).2.1 (N p (.tail _ (.tail _ (.tail _ hp)))).1, (N p (.tail _ (.tail _ (.tail _ hp)))).2⟩
noncomputable def TSQ (G : Value → Value → Value → Prop) (a b : Str) (v : Value) (mC mC' : Str → Option Value) : Prop := ∃ v1 v2, G v v1 v2 ∧ mC' = fun z => if z = b then some v2 else if z = a then some v1 else mC z
theorem asg_comp_pair {a b : Str} {pa pb pos : Pos} {k : Nat} {l : Addr} {G : Value → Value → Value → Prop} (hh : A.handled = none) (ha : scope.names.lookup a = some .local) (hb : scope.names.lookup b = some .local) (hkind : scope.kind = .function) (hne : (@Ne Nat I C) ∧ (@Ne Nat C D))
    {J : Nat → (Str → Option Value) → List Value → List (Addr × Obj) → Prop}
    (hT : ∀ i v mC ys own h, P i v → J i mC ys own → Fr s₀.heap L h m → News s₀.heap L h own → ∃ T v1 v2, v = .ref T ∧ h.IsTuple T #[v1, v2] ∧ G v v1 v2) :
    ∀ (E' : Value → Shared → Prop) i v s₁ oI oC mC ys own (Q' : Unit → Shared → Prop), P i v → J i mC ys own → LCg.NsObj oC mC → (fun i o => IsTI o l i) (i + 1) oI → Fr s₀.heap L s₁.heap m → News s₀.heap L s₁.heap ((I, oI) :: (C, oC) :: (D, LCg.lst ys) :: own) → LCg.Off3 I C D own →
      (∀ h' tk oC' mC', TSQ G a b v mC mC' → LCg.NsObj oC' mC' → Fr s₀.heap L h' m → News s₀.heap L h' ((I, oI) :: (C, oC') :: (D, LCg.lst ys) :: own) → Q' () { s₁ with heap := h', toks := tk }) →
      wpAny (model prog w) A (letOwnedTupleGo (.Tuple [.Name a pa, .Name b pb] k pos) (.ref I) v) (fun _ s₂ => wpAny (model prog w) A (assign (.Tuple [.Name a pa, .Name b pb] k pos) (compEnvC scope cl C env) v) Q' E' s₂) E' s₁ := by
  intro E' i v s₁ oI oC mC ys own Q' hP hJ hC hO F N off hQ
  obtain ⟨T, v1, v2, rfl, ht, hG⟩ := hT i v mC ys own _ hP hJ F fun p hp => N p (.tail _ (.tail _ (.tail _ hp)))
  refine letgo_tu (N _ (.head _)).1 hO.1 hO.2 (by decide) ?_
  refine wpAny_assign_Tuple hh ht rfl rfl fun h₁ he => ?_
  have F₁ : Fr s₀.heap L h₁ m := fr_ext F (Nat.ne_of_gt (fresh_lt F)) (fresh_none F) he
  have N₁ : News s₀.heap L h₁ ((I, oI) :: (C, oC) :: (D, LCg.lst ys) :: own) := fun p hp => ⟨he p.1 p.2 (Nat.ne_of_lt (Heap.lt_size (N p hp).1)) (N p hp).1, (N p hp).2⟩
  show wpAny _ _ (holding [v2] (assign (.Name a pa) (compEnvC scope cl C env) v1) >>= fun _ => (holding [] (assign (.Name b pb) (compEnvC scope cl C env) v2) >>= fun _ => pure ())) _ _ _
  refine wpAny_bind (wpAny_holding (st_comp ha hkind hne hC F₁ N₁ off fun h₂ tk₂ oC₂ hC₂ F₂ N₂ => ?_))
  refine wpAny_bind (wpAny_holding (st_comp hb hkind hne hC₂ F₂ N₂ off fun h₃ tk₃ oC₃ hC₃ F₃ N₃ => wpAny_pure ?_))
  exact hQ h₃ tk₃ oC₃ _ ⟨v1, v2, hG, rfl⟩ hC₃ F₃ N₃
end
theorem ints_sub : ∀ (l : List Value), (∀ v ∈ l, ∃ a t, v = Value.int a t) → ∃ ms, IntsAre l ms
  | [], _ => ⟨[], .nil⟩
  | v :: l, h => by
    obtain ⟨a, t, rfl⟩ := h v (.head _)
    obtain ⟨ms, hm⟩ := ints_sub l fun x hx => h x (.tail _ hx)
    exact ⟨a :: ms, .cons _ _ hm⟩
theorem pick_ints {vs : List Value} {ns : List Int} (hi : IntsAre vs ns) (lo up st : Option Int) : ∃ ms, IntsAre (slicePick vs.toArray lo up st).toList ms := by
  refine ints_sub _ fun v hv => ?_
  unfold slicePick at hv
  rw [List.toList_toArray] at hv
  obtain ⟨j, _, hj⟩ := List.mem_filterMap.mp hv
  have hm : v ∈ vs := by
    rw [List.getElem?_toArray] at hj
    exact List.mem_of_getElem? hj
  have : ∀ {vs : List Value} {ns : List Int}, IntsAre vs ns → v ∈ vs → ∃ a t, v = Value.int a t := by
    intro vs ns h
    induction h with
    | nil => intro h; cases h
    | cons a t _ ih =>
      intro h
      rcases List.mem_cons.mp h with rfl | h
      · exact ⟨_, _, rfl⟩
      · exact ih h
  exact this hi hm
theorem ints_item : ∀ {vs : List Value} {ns : List Int}, IntsAre vs ns → ∀ (i : Nat) (v : Value), vs[i]? = some v → ∃ a t, v = Value.int a t ∧ ns[i]? = some a
  | _, _, .nil, i, v, h => by simp at h
  | _, _, .cons a t _, 0, v, h => by simp at h; exact ⟨a, t, h.symm, rfl⟩
  | _, _, .cons a t r, i + 1, v, h => by
    simp only [List.getElem?_cons_succ] at h ⊢
    exact ints_item r i v h

noncomputable def enc (pr : List Nat) (c : Nat) : List Nat := if c ∈ pr then [c] else [34, 92, 34] ++ pr ++ [34]
theorem strip_enc (a b : Nat) (ha : a ≠ 34 ∧ a ≠ 92) (hb : b ≠ 34 ∧ b ≠ 92) : ∀ (ws pre : List Nat) (start : Nat) (res : List (List Nat)) (acc : List Nat), (∀ c ∈ ws, c ≠ 34 ∧ c ≠ 92) → start ≤ pre.length → res.flatten ++ pre.drop start = acc →
    stripE (pre ++ ws.flatMap (enc [a, b])) ((yl pre.length false (ws.flatMap (enc [a, b]))).foldl (stp (pre ++ ws.flatMap (enc [a, b]))) (start, none, res)) = acc ++ ws.filter (fun c => decide (c ∈ [a, b])) := by
  intro ws
  induction ws with
  | nil =>
    intro pre start res acc _ hs hacc
    subst hacc
    simp only [List.flatMap_nil, List.append_nil, yl, Bool.false_eq_true, if_false, List.foldl_nil, stripE, List.filter_nil]
    by_cases h : start < pre.length
    · simp [h]
    · simp [h, List.drop_of_length_le (Nat.not_lt.mp h)]
  | cons c ws ih =>
    intro pre start res acc hc hs hacc
    have hc1 := hc c (.head _)
    have hc2 : ∀ c ∈ ws, c ≠ 34 ∧ c ≠ 92 := fun x hx => hc x (.tail _ hx)
    by_cases hm : c ∈ [a, b]
    · have e1 : (c :: ws).flatMap (enc [a, b]) = c :: ws.flatMap (enc [a, b]) := by simp only [List.flatMap_cons, enc, hm, if_true]; rfl
      have e2 : yl pre.length false (c :: ws.flatMap (enc [a, b])) = (pre.length, [c]) :: yl (pre.length + 1) false (ws.flatMap (enc [a, b])) := by simp [yl, hc1.2]
      have e3 : ∀ l, stp l (start, none, res) (pre.length, [c]) = (start, none, res) := fun l => if_neg (by simp [hc1.1])
      have e4 : pre ++ c :: ws.flatMap (enc [a, b]) = (pre ++ [c]) ++ ws.flatMap (enc [a, b]) := by simp
      have e5 : pre.length + 1 = (pre ++ [c]).length := by simp
      have e6 : (c :: ws).filter (fun c => decide (c ∈ [a, b])) = c :: ws.filter (fun c => decide (c ∈ [a, b])) := by rw [List.filter_cons, if_pos (decide_eq_true hm)]
      rw [e1, e2, List.foldl_cons, e3, e4, e5, e6]
      have := ih (pre ++ [c]) start res (acc ++ [c]) hc2 (by simp; omega) (by rw [List.drop_append_of_le_length hs, ← List.append_assoc, hacc])
      rw [this]; simp
    · have e1 : (c :: ws).flatMap (enc [a, b]) = 34 :: 92 :: 34 :: a :: b :: 34 :: ws.flatMap (enc [a, b]) := by simp only [List.flatMap_cons, enc, hm, if_false]; rfl
      have e2 : yl pre.length false (34 :: 92 :: 34 :: a :: b :: 34 :: ws.flatMap (enc [a, b])) = (pre.length, [34]) :: (pre.length + 1 + 1, [92, 34]) :: (pre.length + 1 + 1 + 1, [a]) :: (pre.length + 1 + 1 + 1 + 1, [b]) :: (pre.length + 1 + 1 + 1 + 1 + 1, [34]) :: yl (pre.length + 1 + 1 + 1 + 1 + 1 + 1) false (ws.flatMap (enc [a, b])) := by simp [yl, ha.2, hb.2]
      have e4 : pre ++ 34 :: 92 :: 34 :: a :: b :: 34 :: ws.flatMap (enc [a, b]) = (pre ++ [34, 92, 34, a, b, 34]) ++ ws.flatMap (enc [a, b]) := by simp
      have e5 : pre.length + 1 + 1 + 1 + 1 + 1 + 1 = (pre ++ [34, 92, 34, a, b, 34]).length := by simp
      have e6 : (c :: ws).filter (fun c => decide (c ∈ [a, b])) = ws.filter (fun c => decide (c ∈ [a, b])) := by rw [List.filter_cons, if_neg (by simpa using hm)]
      rw [e1, e2, e6]
      simp only [List.foldl_cons]
      have s1 : ∀ l, stp l (start, none, res) (pre.length, [34]) = (start, some pre.length, res) := fun l => rfl
      have s2 : ∀ l, stp l (start, some pre.length, res) (pre.length + 1 + 1, [92, 34]) = (start, some pre.length, res) := fun l => if_neg (by simp)
      have s3 : ∀ l, stp l (start, some pre.length, res) (pre.length + 1 + 1 + 1, [a]) = (start, some pre.length, res) := fun l => if_neg (by simp [ha.1])
      have s4 : ∀ l, stp l (start, some pre.length, res) (pre.length + 1 + 1 + 1 + 1, [b]) = (start, some pre.length, res) := fun l => if_neg (by simp [hb.1])
      have s5 : ∀ l, stp l (start, some pre.length, res) (pre.length + 1 + 1 + 1 + 1 + 1, [34]) = (pre.length + 1 + 1 + 1 + 1 + 1 + 1, none, if start = pre.length then res else res ++ [(l.drop start).take (pre.length - start)]) := fun l => rfl
      rw [s1, s2, s3, s4, s5, e4, e5]
      refine ih (pre ++ [34, 92, 34, a, b, 34]) _ _ acc hc2 (Nat.le_refl _) ?_
      rw [List.drop_length, List.append_nil, ← hacc]
      by_cases h : start = pre.length
      · subst h; simp
      · rw [if_neg h]
        have : ((pre ++ [34, 92, 34, a, b, 34] ++ ws.flatMap (enc [a, b])).drop start).take (pre.length - start) = pre.drop start := by
          rw [List.append_assoc, List.drop_append_of_le_length hs, List.take_left' (by simp)]
        rw [this]; simp
theorem strip_seen {a b : Nat} {ws : List Nat} (ha : a ≠ 34 ∧ a ≠ 92) (hb : b ≠ 34 ∧ b ≠ 92) (hw : ∀ c ∈ ws, c ≠ 34 ∧ c ≠ 92) : stripF (ws.flatMap (enc [a, b])) = ws.filter (fun c => decide (c ∈ [a, b])) := by
  unfold stripF
  split
  · exact strip_enc a b ha hb ws [] 0 [] [] hw (Nat.le_refl _) rfl
  · rename_i h
    have hall : ∀ c ∈ ws, c ∈ [a, b] := fun c hc => by
      by_cases hm : c ∈ [a, b]
      · exact hm
      · exact absurd (List.mem_flatMap.mpr ⟨c, hc, by simp only [enc, hm, if_false]; exact .head _⟩) h
    have e1 : ws.flatMap (enc [a, b]) = ws := by
      clear h hw
      induction ws with
      | nil => rfl
      | cons c ws ih => rw [List.flatMap_cons, ih fun x hx => hall x (.tail _ hx)]; simp only [enc, hall c (.head _), if_true]; rfl
    rw [e1, List.filter_eq_self.mpr fun c hc => decide_eq_true (hall c hc)]
theorem cs8_ok {c : Nat} (h : c ∈ cs8) : c ≠ 34 ∧ c ≠ 92 ∧ c ≠ 46 ∧ c < 128 := by
  have : ∀ c ∈ cs8, c ≠ 34 ∧ c ≠ 92 ∧ c ≠ 46 ∧ c < 128 := by decide
  exact this c h
noncomputable def SJ2 (L : Addr) (oP : Obj) (ws : List Nat) (a b : Nat) (i : Nat) (_ : Str → Option Value) (ys : List Value) (own : List (Addr × Obj)) : Prop :=
  own = [(L + 1, oP)] ∧ i ≤ ws.length ∧ StrsAre ys (((ws.take i).map (enc [a, b])).map sx)
theorem seen_call {prog : Program} {w : World} {mean mg mb} {A : Around} {s : Shared} {Q E : Value → Shared → Prop} {ws : List Nat} {a b : Nat} {t t' : Tok}
   (hd : A.depth < 880) (hh : A.handled = none) (T : TK w mean mg mb s.heap) (ha : a ∈ cs8) (hb : b ∈ cs8) (hw : ∀ c ∈ ws, c ∈ cs8) (hl : ws.length ≤ 4)
   (h : ∀ t s', Kp s s' → Q (.str (sx (ws.filter (fun c => decide (c ∈ [a, b])))) t) s') :
   wpAny (model prog w) A (call (.ref 71) [.str (sx ws) t, .str (sx [a, b]) t']) Q E s := by
  have ho := T.k 71 _ rfl
  refine wpAny_call (call_cells_ret (binds := [(Str.ofString "word", .str (sx ws) t), (Str.ofString "pair", .str (sx [a, b]) t')]) (by simp only [recursionLimit]; omega) ho rfl T.t.nolimit ?_ rfl ?_ ?_)
  · have h2 := T.k 70 _ rfl
    exact ⟨_, _, _, _, rfl, h2, rfl, rfl⟩
  · intro x hx
    rcases List.mem_cons.mp hx with rfl | hx
    · exact .inl rfl
    · rcases List.mem_cons.mp hx with rfl | hx
      · exact .inr ⟨rfl, rfl⟩
      · cases hx
  intro h₁ tk F X
  have TT := T.t
  have KX := T.k
  have R0 := Rs.refl s.gens s.os
  obtain ⟨oP, hoP, hdP⟩ : h₁.IsCell (s.heap.objs.size + 1) (some (.str (sx [a, b]) t')) := X.cell (Str.ofString "pair") _ rfl
  have N : News s.heap s.heap.objs.size h₁ [(s.heap.objs.size + 1, oP)] := by
    intro p hp
    rcases List.mem_singleton.mp hp with rfl
    exact ⟨hoP, Nat.succ_ne_self _, Heap.get?_none_of_le (Nat.le_succ _)⟩
  clear X ho
  w_on
  w_top on
  refine gen_Q fun QT hQT => ?_
  repeat ((fail_if_success (with_reducible show wpAny _ _ (eval (Expr.ListComp _ _ _ _) _) _ _ _)); walk1)
  refine lc_go (cl := [(Str.ofString "pair", s.heap.objs.size + 1)]) (by rfl) rfl (by decide) ?_
  walk1
  refine it_str (st := sx ws) ?_ (by assumption) (by assumption) ?_
  · simp only [sx, List.all_toArray, List.all_eq_true, decide_eq_true_eq]; exact fun c hc => (cs8_ok (hw c hc)).2.2.2
  intro I h₂ o hI F₂ N₂ hlt
  have hsz : (sx ws).cps.size = ws.length := by simp [sx]
  refine cgo_intro (s₀ := s) (L := s.heap.objs.size) (by decide) rfl (It.str (st := sx ws) hh) hI F₂ N₂ (fun p hp => Nat.ne_of_lt (hlt p hp)) (SJ2 s.heap.objs.size oP ws a b (sx ws).cps.size) ?_ (fin_none ?_)
  · intro C D oC s₁ hC F₃ N₃ off ne hg ho
    refine comp_loop rfl rfl (It.str (A := A.deeper _) (st := sx ws) (t := t) hh) (SJ2 s.heap.objs.size oP ws a b) (TSN (Str.ofString "sign")) ?_ (fun _ _ _ _ _ _ _ _ => trivial) ?_ hC ⟨rfl, Nat.zero_le _, .nil⟩ hI F₃ N₃ off ne (by rw [hg, ho]; exact R0) ?_
    · exact asg_comp (OK := fun i o => IsSI o (sx ws) t i) rfl rfl (fun _ => rfl) ⟨ne.1, ne.2.2⟩
    · rintro i mC ys own ⟨_, hi, hy⟩
      have := hy.length
      simp at this; omega
    · rintro E' i v s₁ oI oC mC mC' ys own hi ⟨c, u, rfl, hc⟩ ⟨rfl, hil, hys⟩ hTS hO hC F N off R
      refine wpAny_tests_nil ?_
      simp only [if_true]
      refine gen_Q fun Q9 hQ9 => ?_
      have hx : mC' (Str.ofString "sign") = some (.str (sx [c]) u) := by rw [hTS]; rfl
      have hci : ws[i]? = some c := by simpa [sx] using hc
      have hi' : i < ws.length := (List.getElem?_eq_some_iff.mp hci).1
      have htk : ws.take (i + 1) = ws.take i ++ [c] := by rw [List.take_add_one, hci]; rfl
      by_cases hm : c ∈ [a, b]
      · have hdec : decide (c ∈ [a, b]) = true := decide_eq_true hm
        repeat walk1
        subst hQ9
        refine ⟨_, _, _, hC, ⟨rfl, hi', ?_⟩, F, N, off, R⟩
        rw [htk, List.map_append, List.map_append]
        refine hys.append' ?_
        have e1 : enc [a, b] c = [c] := if_pos hm
        rw [List.map_singleton, List.map_singleton, e1]
        exact .cons _ _ .nil
      · have hdec : decide (c ∈ [a, b]) = false := decide_eq_false hm
        repeat walk1
        subst hQ9
        refine ⟨_, _, _, hC, ⟨rfl, hi', ?_⟩, F, N, off, R⟩
        rw [htk, List.map_append, List.map_append]
        refine hys.append' ?_
        have e1 : enc [a, b] c = [34, 92, 34] ++ [a, b] ++ [34] := if_neg hm
        rw [List.map_singleton, List.map_singleton, e1]
        exact .cons _ _ .nil
  · rintro D mC ys own s₁ ⟨rfl, hi, hys⟩ F N off R
    rw [hsz, List.take_length] at hys
    repeat ((fail_if_success (with_reducible show wpAny _ _ (call (Value.builtin "str.join") _) _ _ _)); walk1)
    refine r_join (ls := ws.map (enc [a, b])) ⟨_, (N _ (.head _)).1, rfl, _, rfl⟩ hys (by simp; omega) ?_ ?_
    · intro l hl
      obtain ⟨c, _, rfl⟩ := List.mem_map.mp hl
      unfold enc; split <;> simp
    · intro t9 k9
      repeat ((fail_if_success (with_reducible show wpAny _ _ (call (Value.ref 28) _) _ _ _)); walk1)
      refine strip_call (by show A.depth + 1 < 890; omega) hh (T.keeps F.keep) ?_ ?_ ?_
      · intro c hc
        obtain ⟨l, hl, hcl⟩ := List.mem_flatten.mp hc
        obtain ⟨x, hx, rfl⟩ := List.mem_map.mp hl
        have hx1 := cs8_ok (hw x hx)
        have ha1 := cs8_ok ha
        have hb1 := cs8_ok hb
        unfold enc at hcl
        split at hcl
        · simp at hcl; omega
        · simp at hcl; omega
      · rw [← List.flatMap_def]
        have : ∀ ws : List Nat, (ws.flatMap (enc [a, b])).length ≤ 6 * ws.length := by
          intro ws
          induction ws with
          | nil => simp
          | cons c r ih =>
            have : (enc [a, b] c).length ≤ 6 := by unfold enc; split <;> simp
            rw [List.flatMap_cons, List.length_append, List.length_cons]; omega
        have := this ws
        omega
      · intro t10 s10 hK
        have ha1 := cs8_ok ha
        have hb1 := cs8_ok hb
        rw [← List.flatMap_def, strip_seen ⟨ha1.1, ha1.2.1⟩ ⟨hb1.1, hb1.2.1⟩ (fun c hc => ⟨(cs8_ok (hw c hc)).1, (cs8_ok (hw c hc)).2.1⟩)]
        subst hQT
        exact h t10 s10 ((Kp.of (s := s) (s' := ⟨s₁.heap, s₁.gens, s₁.drawn, k9, s₁.os⟩) F R).trans hK)

noncomputable def ShAre (h : Heap) (items : List Value) (ps : List (Nat × Nat × List Nat)) : Prop := items.length = ps.length ∧ ∀ (i : Nat) p, ps[i]? = some p → ∃ T t1 t2, items[i]? = some (.ref T) ∧ h.IsTuple T #[.str (sx [p.1, p.2.1]) t1, .str (sx (pat p.2.2)) t2]
noncomputable def PsOk (ps : List (Nat × Nat × List Nat)) : Prop := ∀ p ∈ ps, p.1 ∈ cs8 ∧ p.2.1 ∈ cs8 ∧ (∀ c ∈ p.2.2, c ∈ cs8) ∧ p.2.2.length ≤ 4
noncomputable def fit1 (ws : List Nat) (p : Nat × Nat × List Nat) : Bool := subW (pws p.2.2) (ws.filter (fun c => decide (c ∈ [p.1, p.2.1])))
theorem ShAre.keeps {h h' : Heap} {items : List Value} {ps : List (Nat × Nat × List Nat)} (x : ShAre h items ps) (k : ∀ b o, h.get? b = some o → h'.get? b = some o) : ShAre h' items ps :=
  ⟨x.1, fun i p e => by obtain ⟨T, t1, t2, h1, ⟨o, h2, r⟩⟩ := x.2 i p e; exact ⟨T, t1, t2, h1, o, k _ _ h2, r⟩⟩
noncomputable def FJ (ws : List Nat) (t : Tok) (ps : List (Nat × Nat × List Nat)) (i : Nat) (m : Str → Option Value) (own : List (Addr × Obj)) : Prop :=
  own = [] ∧ m (Str.ofString "word") = some (.str (sx ws) t) ∧ ps.all (fit1 ws) = (ps.drop i).all (fit1 ws)
theorem fits_call {prog : Program} {w : World} {mean mg mb} {A : Around} {s : Shared} {Q E : Value → Shared → Prop} {ws : List Nat} {t : Tok} {Sh : Addr} {items : List Value} {ps : List (Nat × Nat × List Nat)}
   (hd : A.depth < 860) (hh : A.handled = none) (T : TK w mean mg mb s.heap) (hw : ∀ c ∈ ws, c ∈ cs8) (hl : ws.length ≤ 4) (hSh : s.heap.IsList Sh items.toArray) (hps : ShAre s.heap items ps) (hok : PsOk ps)
   (h : ∀ s', Kp s s' → Q (.bool (ps.all (fit1 ws))) s') :
   wpAny (model prog w) A (call (.ref 78) [.str (sx ws) t, .ref Sh]) Q E s := by
  have ho := T.k 78 _ rfl
  refine wpAny_call (call_plain_ret (binds := [(Str.ofString "word", .str (sx ws) t), (Str.ofString "shown", .ref Sh)]) (by simp only [recursionLimit]; omega) ho rfl T.t.nolimit ?_ rfl (by simp; decide) ?_)
  · have h2 := T.k 77 _ rfl
    exact ⟨_, _, _, _, rfl, h2, rfl, rfl⟩
  intro h₁ F
  have TT := T.t
  have KX := T.k
  have R0 := Rs.refl s.gens s.os
  have N : News s.heap s.heap.objs.size h₁ [] := News.nil
  clear ho
  w_on
  w_top on
  refine gen_Q fun QT hQT => ?_
  repeat ((fail_if_success (with_reducible show wpAny _ _ (exec (Stmt.For _ _ _ _ _) _) _ _ _)); walk1)
  refine wpAny_For ?_
  walk1
  have hl1 : h₁.IsList Sh items.toArray := by obtain ⟨o, e, r⟩ := hSh; exact ⟨o, F.keep _ _ e, r⟩
  refine it_list hl1 F N ?_
  intro I h₂ o hI F₂ N₂ hlt
  refine for_it (s₀ := s) (L := s.heap.objs.size) (It.list (A := A.deeper _) (l := Sh) (items := items.toArray) hh) (FJ ws t ps) (TSP items.toArray s.heap (Str.ofString "pair") (Str.ofString "pattern"))
    ?_ ?_ ⟨rfl, rfl, rfl⟩ hI F₂ N₂ (by simp) R0 ?_ ?_
  · refine asg_pair_list (A := A.deeper _) hh (by rfl) (by rfl) (by rfl) (by rfl) ?_
    intro i v hv
    have hi : i < items.length := by
      have := (Array.getElem?_eq_some_iff.mp hv).1
      simpa using this
    have hi' : i < ps.length := by rw [← hps.1]; exact hi
    obtain ⟨T, t1, t2, hT, hTup⟩ := hps.2 i ps[i] (by simp [hi'])
    rw [List.getElem?_toArray, hT] at hv
    cases hv
    exact ⟨T, _, _, rfl, hTup⟩
  · intro i m₁ own₁ h' _ F' _
    obtain ⟨o, e, r⟩ := hSh; exact ⟨o, F'.keep _ _ e, r⟩
  · rintro E' i v s₁ m₁ m₂ own₁ o hi hv ⟨rfl, hwd, hall⟩ ⟨T2, v1, v2, hT2, hTup2, rfl⟩ hO F N R off
    have hi' : i < ps.length := by rw [← hps.1]; simpa using hi
    obtain ⟨T3, t1, t2, hT3, hTup3⟩ := hps.2 i ps[i] (by simp [hi'])
    rw [List.getElem?_toArray, hT3] at hT2
    cases hT2
    obtain ⟨rfl, rfl⟩ : v1 = .str (sx [ps[i].1, ps[i].2.1]) t1 ∧ v2 = .str (sx (pat ps[i].2.2)) t2 := by
      obtain ⟨o1, e1, c1, n1, d1⟩ := hTup2
      obtain ⟨o2, e2, c2, n2, d2⟩ := hTup3
      rw [e1] at e2; cases e2
      rw [d1] at d2
      simp at d2
      exact d2.1
    have hpi := hok ps[i] (List.getElem_mem hi')
    have hdr : ps.drop i = ps[i] :: ps.drop (i + 1) := List.drop_eq_getElem_cons hi'
    rw [hdr, List.all_cons] at hall
    generalize ps[i] = p at *
    rw [norm1 hwd] at F
    refine gen_Q fun Q0 hQ0 => ?_
    repeat ((fail_if_success (with_reducible show wpAny _ _ (call (Value.ref 71) _) _ _ _)); walk1)
    refine seen_call (by show A.depth + 1 < 880; omega) hh (T.keeps (Fr.keep (by assumption))) hpi.1 hpi.2.1 hw hl ?_
    intro t5 s5 K5
    rename Fr _ _ _ _ => F4
    have F5 := fr_kp F4 K5
    have N5 := news_kp (by assumption) K5
    clear F4
    repeat ((fail_if_success (with_reducible show wpAny _ _ (call (Value.ref 35) _) _ _ _)); walk1)
    have hfl : (ws.filter (fun c => decide (c ∈ [p.1, p.2.1]))).length ≤ 100 := Nat.le_trans (List.length_filter_le _ _) (by omega)
    refine em_call (by show A.depth + 1 < 890; omega) hh (T.keeps (Fr.keep (by assumption))) (fun c hc => (cs8_ok (hpi.2.2.1 c hc)).2.2.1) (fun c hc => Nat.lt_trans (cs8_ok (hpi.2.2.1 c hc)).2.2.2 (by decide)) hpi.2.2.2 hfl ?_
    intro s6 K6
    have F6 := fr_kp F5 K6
    have N6 := news_kp (by assumption) K6
    have R6 := R.trans (K5.rest.trans K6.rest)
    clear F5 N5
    have hb0 : subW (pws p.2.2) (ws.filter (fun c => decide (c ∈ [p.1, p.2.1]))) = fit1 ws p := rfl
    rw [hb0]
    cases hb : fit1 ws p with
    | true =>
      rw [hb] at hall
      repeat walk1
      subst hQ0
      exact ⟨_, _, ⟨rfl, rfl, by rw [hall, Bool.true_and]⟩, by assumption, by assumption, R6, off⟩
    | false =>
      rw [hb] at hall
      repeat walk1
      have hF : ps.all (fit1 ws) = false := by rw [hall]; rfl
      rw [hF] at h
      subst hQ0
      subst hQT
      exact h _ (Kp.of (by assumption) R6)
  · rintro s₁ m₁ own₁ ⟨rfl, hwd, hall⟩ F N R
    have hT : ps.all (fit1 ws) = true := by
      rw [hall, List.drop_of_length_le (by simp [hps.1])]; rfl
    rw [hT] at h
    dsimp only
    repeat walk1
    subst hQT
    exact h _ (Kp.of F R)

theorem any_sx (l : List (List Nat)) (x : List Nat) : (l.map sx).any (· == sx x) = decide (x ∈ l) := by
  rw [Bool.eq_iff_iff]
  simp only [List.any_map, List.any_eq_true, Function.comp_apply, beq_iff_eq, decide_eq_true_eq]
  constructor
  · rintro ⟨y, hy, e⟩; rw [← sx_inj.mp e]; exact hy
  · intro h; exact ⟨x, h, rfl⟩
section
variable {prog : Program} {w : World} {A : Around} {E : Value → Shared → Prop} {s : Shared}
theorem r_inL {D : Addr} {vs : List Value} {l : List (List Nat)} {x : List Nat} {t : Tok} {Q : Value → Shared → Prop} (hl : s.heap.IsList D vs.toArray) (hi : StrsAre vs (l.map sx)) (h : Q (.bool (decide (x ∈ l))) s) :
    wpAny (model prog w) A (compareOp .In (.str (sx x) t) (.ref D)) Q E s := in_list_strs hl hi (by rw [any_sx]; exact h)
theorem r_notinL {D : Addr} {vs : List Value} {l : List (List Nat)} {x : List Nat} {t : Tok} {Q : Value → Shared → Prop} (hl : s.heap.IsList D vs.toArray) (hi : StrsAre vs (l.map sx)) (h : Q (.bool (!decide (x ∈ l))) s) :
    wpAny (model prog w) A (compareOp .NotIn (.str (sx x) t) (.ref D)) Q E s := notin_list_strs hl hi (by rw [any_sx]; exact h)
end
noncomputable def addNew (acc : List (List Nat)) (x : List Nat) : List (List Nat) := if x ∈ acc then acc else acc ++ [x]
noncomputable def ins (c : Nat) (one : List Nat) (k : Nat) : List Nat := one.take k ++ [c] ++ one.drop k
noncomputable def long1 (c : Nat) (acc : List (List Nat)) (one : List Nat) : List (List Nat) := (List.range (one.length + 1)).foldl (fun acc k => addNew acc (ins c one k)) acc
noncomputable def longer (words : List (List Nat)) (c : Nat) : List (List Nat) := words.foldl (long1 c) []
noncomputable def wordsF (ws : List Nat) : List (List Nat) := ws.foldl longer [[]]
theorem addNew_ok {n : Nat} {acc : List (List Nat)} {x : List Nat} (h : ∀ w ∈ acc, w.length = n) (hx : x.length = n) : (∀ w ∈ addNew acc x, w.length = n) ∧ (addNew acc x).length ≤ acc.length + 1 := by
  unfold addNew
  split
  · exact ⟨h, Nat.le_succ _⟩
  · refine ⟨fun w hw => ?_, by simp⟩
    rcases List.mem_append.mp hw with hw | hw
    · exact h w hw
    · rw [List.mem_singleton.mp hw]; exact hx
theorem ins_len (c : Nat) (one : List Nat) (k : Nat) (hk : k ≤ one.length) : (ins c one k).length = one.length + 1 := by
  unfold ins; simp; omega
theorem long1_part {n : Nat} (c : Nat) (one : List Nat) (ho : one.length = n) (acc : List (List Nat)) (h : ∀ w ∈ acc, w.length = n + 1) : ∀ k, k ≤ one.length + 1 →
    (∀ w ∈ (List.range k).foldl (fun acc k => addNew acc (ins c one k)) acc, w.length = n + 1) ∧ ((List.range k).foldl (fun acc k => addNew acc (ins c one k)) acc).length ≤ acc.length + k
  | 0, _ => ⟨h, Nat.le_refl _⟩
  | k + 1, hk => by
    have ih := long1_part c one ho acc h k (by omega)
    rw [List.range_succ, List.foldl_append]
    have := addNew_ok ih.1 (x := ins c one k) (by rw [ins_len c one k (by omega), ho])
    exact ⟨this.1, by simp only [List.foldl_cons, List.foldl_nil]; omega⟩
theorem long1_ok {n : Nat} (c : Nat) (one : List Nat) (ho : one.length = n) (acc : List (List Nat)) (h : ∀ w ∈ acc, w.length = n + 1) :
    (∀ w ∈ long1 c acc one, w.length = n + 1) ∧ (long1 c acc one).length ≤ acc.length + (n + 1) := by
  have := long1_part c one ho acc h (one.length + 1) (Nat.le_refl _)
  exact ⟨this.1, by have := this.2; unfold long1; omega⟩
theorem longer_part {n : Nat} (c : Nat) : ∀ (words acc : List (List Nat)), (∀ w ∈ words, w.length = n) → (∀ w ∈ acc, w.length = n + 1) → (∀ w ∈ words.foldl (long1 c) acc, w.length = n + 1) ∧ (words.foldl (long1 c) acc).length ≤ acc.length + words.length * (n + 1)
  | [], acc, _, h => ⟨h, by simp⟩
  | one :: words, acc, hw, h => by
    have h1 := long1_ok c one (hw one (.head _)) acc h
    have h2 := longer_part c words (long1 c acc one) (fun x hx => hw x (.tail _ hx)) h1.1
    refine ⟨h2.1, ?_⟩
    rw [List.foldl_cons, List.length_cons, Nat.add_mul, Nat.one_mul]
    omega
theorem words_part : ∀ (ws : List Nat) (n : Nat) (words : List (List Nat)), ws.length + n ≤ 4 → (∀ w ∈ words, w.length = n) → words.length ≤ 5 ^ n → (∀ w ∈ ws.foldl longer words, w.length = n + ws.length) ∧ (ws.foldl longer words).length ≤ 5 ^ (n + ws.length)
  | [], n, words, _, h, hl => ⟨h, hl⟩
  | c :: ws, n, words, hn, h, hl => by
    have h1 := longer_part c words [] h (by simp)
    have hn' : ws.length + (n + 1) ≤ 4 := by simp at hn; omega
    have h2 := words_part ws (n + 1) (longer words c) hn' h1.1 (by
      have := h1.2
      simp only [List.length_nil, Nat.zero_add] at this
      refine Nat.le_trans this ?_
      rw [Nat.pow_succ]
      exact Nat.mul_le_mul hl (by omega))
    rw [List.foldl_cons, List.length_cons, show n + (ws.length + 1) = n + 1 + ws.length by omega]
    exact h2
theorem words_ok {ws : List Nat} (h : ws.length ≤ 4) : (∀ w ∈ wordsF ws, w.length = ws.length) ∧ (wordsF ws).length ≤ 625 := by
  have := words_part ws 0 [[]] (by omega) (by simp) (by simp)
  rw [Nat.zero_add] at this
  exact ⟨this.1, Nat.le_trans this.2 (Nat.le_trans (Nat.pow_le_pow_right (by omega) h) (by decide))⟩
theorem off_map {I : Addr} {own own' : List (Addr × Obj)} (h : own'.map (·.1) = own.map (·.1)) (off : ∀ p ∈ own, p.1 ≠ I) : ∀ p ∈ own', p.1 ≠ I := by
  intro p hp
  have : p.1 ∈ own.map (·.1) := h ▸ List.mem_map_of_mem hp
  obtain ⟨q, hq, e⟩ := List.mem_map.mp this
  rw [← e]; exact off q hq
noncomputable def WJ (ws : List Nat) (i : Nat) (m : Str → Option Value) (own : List (Addr × Obj)) : Prop :=
  ∃ (D : Addr) (vs : List Value) (nn : Nat), own = [(D, listOf vs.toArray nn)] ∧ m (Str.ofString "words") = some (.ref D) ∧ StrsAre vs ((wordsF (ws.take i)).map sx)
noncomputable def WJ2 (c : Nat) (u : Tok) (D D2 I : Addr) (vs : List Value) (nn : Nat) (o : Obj) (words : List (List Nat)) (i : Nat) (m : Str → Option Value) (own : List (Addr × Obj)) : Prop :=
  ∃ (vs2 : List Value) (n2 : Nat), own = [(D2, listOf vs2.toArray n2), (I, o), (D, listOf vs.toArray nn)] ∧ m (Str.ofString "longer") = some (.ref D2) ∧ m (Str.ofString "sign") = some (.str (sx [c]) u) ∧ StrsAre vs2 (((words.take i).foldl (long1 c) []).map sx)
noncomputable def WJ3 (c : Nat) (u t1 : Tok) (D D2 I I2 : Addr) (vs : List Value) (nn : Nat) (o o2 : Obj) (x : List Nat) (acc : List (List Nat)) (i : Nat) (m : Str → Option Value) (own : List (Addr × Obj)) : Prop :=
  ∃ (vs2 : List Value) (n2 : Nat), own = [(I2, o2), (D2, listOf vs2.toArray n2), (I, o), (D, listOf vs.toArray nn)] ∧ m (Str.ofString "longer") = some (.ref D2) ∧ m (Str.ofString "sign") = some (.str (sx [c]) u) ∧ m (Str.ofString "one") = some (.str (sx x) t1) ∧
    StrsAre vs2 (((List.range i).foldl (fun acc k => addNew acc (ins c x k)) acc).map sx)
theorem words_call {prog : Program} {w : World} {mean mg mb} {A : Around} {s : Shared} {Q E : Value → Shared → Prop} {ws : List Nat} {t : Tok}
   (hd : A.depth < 860) (hh : A.handled = none) (T : TK w mean mg mb s.heap) (hw : ∀ c ∈ ws, c < 128) (hl : ws.length ≤ 4)
   (h : ∀ D vs nn s', s'.heap.get? D = some (listOf vs.toArray nn) → s.heap.get? D = none → StrsAre vs ((wordsF ws).map sx) → Kp s s' → Q (.ref D) s') :
   wpAny (model prog w) A (call (.ref 59) [.str (sx ws) t]) Q E s := by
  have ho := T.k 59 _ rfl
  refine wpAny_call (call_plain_ret (binds := [(Str.ofString "word", .str (sx ws) t)]) (by simp only [recursionLimit]; omega) ho rfl T.t.nolimit ?_ rfl (by simp) ?_)
  · have h2 := T.k 58 _ rfl
    exact ⟨_, _, _, _, rfl, h2, rfl, rfl⟩
  intro h₁ F
  have TT := T.t
  have KX := T.k
  have R0 := Rs.refl s.gens s.os
  have N : News s.heap s.heap.objs.size h₁ [] := News.nil
  clear ho
  w_on
  w_top on
  refine gen_Q fun QT hQT => ?_
  repeat ((fail_if_success (with_reducible show wpAny _ _ (exec (Stmt.For _ _ _ _ _) _) _ _ _)); walk1)
  refine wpAny_For ?_
  walk1
  have hsz : (sx ws).cps.size = ws.length := by simp [sx]
  refine it_str (st := sx ws) (by simp only [sx, List.all_toArray, List.all_eq_true, decide_eq_true_eq]; exact hw) (by assumption) (by assumption) ?_
  intro I h₂ o hI F₂ N₂ hlt
  refine for_str (s₀ := s) (L := s.heap.objs.size) (WJ ws) hh rfl rfl rfl ⟨_, _, _, rfl, rfl, .cons _ _ .nil⟩ hI F₂ N₂ (fun p hp => Nat.ne_of_lt (hlt p hp)) R0 ?_ ?_
  · rintro E' i c u s₁ m₁ own₁ o hc ⟨D, vs, nn, rfl, hm, hvs⟩ F N R off
    have hci : ws[i]? = some c := by simpa [sx] using hc
    have hi' : i < ws.length := (List.getElem?_eq_some_iff.mp hci).1
    have htk : ws.take (i + 1) = ws.take i ++ [c] := by rw [List.take_add_one, hci]; rfl
    have hW : wordsF (ws.take (i + 1)) = longer (wordsF (ws.take i)) c := by unfold wordsF; rw [htk, List.foldl_append]; rfl
    have hWok := words_ok (ws := ws.take i) (by simp; omega)
    rw [List.length_take, Nat.min_eq_left (Nat.le_of_lt hi')] at hWok
    rw [one_sx] at F
    rw [norm1 hm] at F
    have hDI : @Ne Nat D I := off _ (.head _)
    refine gen_Q fun Q0 hQ0 => ?_
    repeat ((fail_if_success (with_reducible show wpAny _ _ (exec (Stmt.For _ _ _ _ _) _) _ _ _)); walk1)
    refine wpAny_For ?_
    walk1
    rename_i D2 hA hl2 hB F4 N4
    have hl2a : @LT.lt Nat _ I D2 := hl2.1
    have hl2b : @LT.lt Nat _ D D2 := hl2.2
    generalize hwords : wordsF (ws.take i) = words at *
    have hvl := hvs.length
    rw [List.length_map] at hvl
    refine it_list (News.isList N4 (.tail _ (.tail _ (.head _)))) F4 N4 ?_
    intro I2 h₅ o2 hI2 F₅ N₅ hlt2
    have hI2a : @LT.lt Nat _ D2 I2 := hlt2 _ (.head _)
    have hI2b : @LT.lt Nat _ I I2 := hlt2 _ (.tail _ (.head _))
    have hI2c : @LT.lt Nat _ D I2 := hlt2 _ (.tail _ (.tail _ (.head _)))
    refine for_list (s₀ := s) (L := s.heap.objs.size) (items := vs.toArray) (WJ2 c u D D2 I vs nn o words) hh rfl rfl rfl ?_ ⟨_, _, rfl, rfl, rfl, .nil⟩ hI2 F₅ N₅ (fun p hp => Nat.ne_of_lt (hlt2 p hp)) R ?_ ?_
    · rintro i2 m2 own2 h6 ⟨vs2, n2, rfl, _⟩ _ N6
      exact News.isList N6 (.tail _ (.tail _ (.head _)))
    · rintro E2 i2 v2 s2 m2 own2 o2 hv2 ⟨vs2, n2, rfl, hm2, hm3, hvs2⟩ F N R off2
      obtain ⟨x, tx, rfl, hxi⟩ : ∃ l tl, v2 = .str (sx l) tl ∧ words[i2]? = some l := by
        obtain ⟨y, t, hv', hy'⟩ := hvs.item i2 v2 (by simpa using hv2)
        rw [List.getElem?_map] at hy'
        obtain ⟨l, hl1, hl2⟩ := Option.map_eq_some_iff.mp hy'
        exact ⟨l, t, by rw [hv', hl2], hl1⟩
      have hxlen := hWok.1 x (List.mem_of_getElem? hxi)
      have htk2 : words.take (i2 + 1) = words.take i2 ++ [x] := by rw [List.take_add_one, hxi]; rfl
      have hi2 : i2 < words.length := (List.getElem?_eq_some_iff.mp hxi).1
      have hacc := longer_part (n := i) c (words.take i2) [] (fun y hy => hWok.1 y (List.mem_of_mem_take hy)) (by simp)
      have hacc2 : ((words.take i2).foldl (long1 c) []).length ≤ 625 * 5 := by
        have h1 := hacc.2
        have h2 : (words.take i2).length ≤ 625 := Nat.le_trans (List.length_take_le _ _) (by omega)
        have h3 := Nat.mul_le_mul h2 (show i + 1 ≤ 5 by omega)
        simp only [List.length_nil, Nat.zero_add] at h1
        omega
      generalize hac : (words.take i2).foldl (long1 c) [] = acc at *
      rw [norm2 hm2 hm3] at F
      refine gen_Q fun Q1 hQ1 => ?_
      repeat ((fail_if_success (with_reducible show wpAny _ _ (exec (Stmt.For _ _ _ _ _) _) _ _ _)); walk1)
      refine wpAny_For ?_
      repeat ((fail_if_success (with_reducible show wpAny _ _ (call (Value.type _) _) _ _ _)); walk1)
      refine it_range (n := x.length + 1) (by omega) (by assumption) (by assumption) ?_
      intro I3 h₇ tk₇ F₇ N₇ hlt3
      have hI3a : @LT.lt Nat _ D2 I3 := hlt3 _ (.tail _ (.head _))
      refine for_range (s₀ := s) (L := s.heap.objs.size) (n := x.length + 1) (WJ3 c u tx D D2 I I2 vs nn o o2 x acc) hh rfl rfl rfl ⟨_, _, rfl, rfl, rfl, rfl, hvs2⟩ F₇ N₇ (fun p hp => Nat.ne_of_lt (hlt3 p hp)) R ?_ ?_
      · rintro E3 i3 t3 s3 m3 own3 o3 hi3 ⟨vs3, n3, rfl, hm4, hm5, hm6, hvs3⟩ F N R off3
        have hpart := long1_part c x hxlen acc hacc.1 i3 (by omega)
        generalize hac3 : (List.range i3).foldl (fun acc k => addNew acc (ins c x k)) acc = acc3 at *
        have hac4 : (List.range (i3 + 1)).foldl (fun acc k => addNew acc (ins c x k)) acc = addNew acc3 (ins c x i3) := by rw [List.range_succ, List.foldl_append, hac3]; rfl
        have hv3l := hvs3.length
        rw [List.length_map] at hv3l
        have hx100 : x.length ≤ 100 := by omega
        have hb3 : acc3.length ≤ 4000 := by have := hpart.2; omega
        clear hpart hacc hacc2 hi2 hvl hWok hl
        rw [norm3 hm4 hm5 hm6] at F
        refine gen_Q fun Q2 hQ2 => ?_
        repeat ((fail_if_success (with_reducible show wpAny _ _ (compareOp _ _ _) _ _ _)); walk1)
        refine r_notinL (x := ins c x i3) (News.isList (by assumption) (.tail _ (.tail _ (.head _)))) hvs3 ?_
        by_cases hin : ins c x i3 ∈ acc3
        · have hdec : decide (ins c x i3 ∈ acc3) = true := decide_eq_true hin
          repeat walk1
          subst hQ2
          refine ⟨_, _, ⟨vs3, n3, rfl, rfl, rfl, rfl, ?_⟩, by assumption, by assumption, R, off3⟩
          rw [hac4, addNew, if_pos hin]; exact hvs3
        · have hdec : decide (ins c x i3 ∈ acc3) = false := decide_eq_false hin
          repeat ((fail_if_success (with_reducible show wpAny _ _ (call (Value.builtin "list.append") _) _ _ _)); walk1)
          refine append_K (by assumption) (by assumption) (by k_upd) ?_ (by rw [sizeLine_eq]; simp; omega)
          intro h8 F8 N8
          simp only [List.push_toArray] at N8
          repeat walk1
          subst hQ2
          refine ⟨_, _, ⟨vs3 ++ [_], n3 + 1, rfl, rfl, rfl, rfl, ?_⟩, by assumption, by assumption, R, off_map (by rfl) off3⟩
          rw [hac4, addNew, if_neg hin, List.map_append]
          exact hvs3.append' (.cons _ _ .nil)
      · rintro s3 m3 own3 ⟨vs3, n3, rfl, hm4, hm5, hm6, hvs3⟩ F N R
        rw [norm2 hm4 hm5] at F
        dsimp only
        repeat walk1
        subst hQ1
        refine ⟨_, _, ⟨vs3, n3, rfl, rfl, rfl, ?_⟩, by assumption, by assumption, R, off_map (by rfl) off2⟩
        rw [htk2, List.foldl_append, hac]; exact hvs3
    · rintro s2 m2 own2 ⟨vs2, n2, rfl, hm2, hm3, hvs2⟩ F N R
      rw [norm1 hm2] at F
      dsimp only
      repeat walk1
      subst hQ0
      refine ⟨_, _, ⟨D2, vs2, n2, rfl, rfl, ?_⟩, by assumption, ?_, R, ?_⟩
      · rw [hW]
        rw [List.size_toArray, hvl, List.take_length] at hvs2
        exact hvs2
      · rename News _ _ _ _ => N9
        intro p hp
        simp only [List.mem_cons, List.not_mem_nil, or_false] at hp
        rcases hp with rfl | rfl
        · exact N9 _ (.tail _ (.head _))
        · exact N9 _ (.head _)
      · intro p hp
        rcases List.mem_singleton.mp hp with rfl
        exact Nat.ne_of_gt hl2a
  · rintro s₁ m₁ own₁ ⟨D, vs, nn, rfl, hm, hvs⟩ F N R
    rw [norm1 hm] at F
    rw [hsz, List.take_length] at hvs
    dsimp only
    repeat walk1
    subst hQT
    exact h D vs nn _ (N _ (.head _)).1 (N _ (.head _)).2.2 hvs (Kp.of F R)

noncomputable def WEnd (I : Nat → Shared → Prop) (Q : Flow → Shared → Prop) (n : Nat) (f : Flow) (s₃ : Shared) : Prop := match f with
  | .next | .cont => ∃ m, m < n ∧ I m s₃
  | .brk => Q .next s₃
  | .ret v => Q (.ret v) s₃
theorem while_T {prog : Program} {w : World} {A : Around} {env : Env} {test : Expr} {body : List Stmt} {Q : Flow → Shared → Prop} {E : Value → Shared → Prop} {s : Shared} (I : Nat → Shared → Prop)
    (turn : ∀ (E' : Value → Shared → Prop) n s, I n s → wpAny (model prog w) A (isTrue test env (eval test env)) (fun b s₂ => if b = true then wpAny (model prog w) A (execs body env) (WEnd I Q n) E' s₂
        else Q .next s₂) E' s) (n : Nat) (h : I n s) :
    codeAny (model prog w) A (.whileLoop test body [] env) (fun r s' => match r with | .ok f => Q f s' | .error e => cameBackBy (model prog w) A env E e s') s := by
  refine codeAny_whileLoop I (fun n s hI => ?_) n h
  refine wpAny_mono (turn _ n s hI) (fun b s₂ h₂ => ?_) fun _ _ e => e
  cases b with
  | true => exact wpAny_mono h₂ (fun f s₃ h₃ => by cases f <;> exact h₃) fun _ _ e => e
  | false => exact wpAny_execs_nil h₂
noncomputable def swp (one : List Nat) (k : Nat) : List Nat := one.take k ++ [one.getD (k + 1) 0] ++ [one.getD k 0] ++ one.drop (k + 2)
noncomputable def pr2 (one : List Nat) (k : Nat) : List Nat := [one.getD k 0, one.getD (k + 1) 0]
noncomputable def chg1 (free : List (List Nat)) (one : List Nat) (acc : List (List Nat)) (k : Nat) : List (List Nat) := if pr2 one k ∈ free ∧ swp one k ∉ acc then acc ++ [swp one k] else acc
noncomputable def chgS (free : List (List Nat)) (one : List Nat) (acc : List (List Nat)) : List (List Nat) := (List.range 3).foldl (chg1 free one) acc
noncomputable def chgRun (free : List (List Nat)) : Nat → List (List Nat) → Nat → Option (List (List Nat))
  | 0, found, done => if done < found.length then none else some found
  | n + 1, found, done => if done < found.length then chgRun free n (chgS free (found.getD done []) found) (done + 1) else some found
theorem swp_len (one : List Nat) (k : Nat) (h : one.length = 4) (hk : k < 3) : (swp one k).length = 4 := by
  unfold swp; simp; omega
theorem chg1_ok {free : List (List Nat)} {one : List Nat} {acc : List (List Nat)} {k : Nat} (h : one.length = 4) (hk : k < 3) (ha : ∀ x ∈ acc, x.length = 4) : (∀ x ∈ chg1 free one acc k, x.length = 4) ∧ (chg1 free one acc k).length ≤ acc.length + 1 := by
  unfold chg1
  split
  · refine ⟨fun x hx => ?_, by simp⟩
    rcases List.mem_append.mp hx with hx | hx
    · exact ha x hx
    · rw [List.mem_singleton.mp hx]; exact swp_len one k h hk
  · exact ⟨ha, Nat.le_succ _⟩
theorem chg_part {free : List (List Nat)} {one : List Nat} {acc : List (List Nat)} (h : one.length = 4) (ha : ∀ x ∈ acc, x.length = 4) : ∀ k, k ≤ 3 → (∀ x ∈ (List.range k).foldl (chg1 free one) acc, x.length = 4) ∧ ((List.range k).foldl (chg1 free one) acc).length ≤ acc.length + k
  | 0, _ => ⟨ha, Nat.le_refl _⟩
  | k + 1, hk => by
    have ih := chg_part (free := free) h ha k (by omega)
    rw [List.range_succ, List.foldl_append]
    have := chg1_ok (free := free) h (show k < 3 by omega) ih.1
    exact ⟨this.1, by simp only [List.foldl_cons, List.foldl_nil]; omega⟩
noncomputable def CJ (free res : List (List Nat)) (L : Addr) (s : Shared) (Fa : Addr) (n : Nat) (s' : Shared) : Prop :=
  ∃ (D : Addr) (vs : List Value) (nn : Nat) (m : Str → Option Value) (found : List (List Nat)) (done : Nat) (td : Tok), Fr s.heap L s'.heap m ∧ News s.heap L s'.heap [(D, listOf vs.toArray nn)] ∧ Rs s.gens s.os s'.gens s'.os ∧
    m (Str.ofString "found") = some (.ref D) ∧ m (Str.ofString "done") = some (.int (done : Nat) td) ∧ m (Str.ofString "free") = some (.ref Fa) ∧ StrsAre vs (found.map sx) ∧ (∀ x ∈ found, x.length = 4) ∧ n ≤ 30 ∧ found.length ≤ 1 + 3 * (30 - n) ∧
    chgRun free n found done = some res
noncomputable def CJ2 (free : List (List Nat)) (one : List Nat) (acc : List (List Nat)) (D Fa : Addr) (done : Nat) (td t1 : Tok) (i : Nat) (m : Str → Option Value) (own : List (Addr × Obj)) : Prop :=
  ∃ (vs2 : List Value) (n2 : Nat), own = [(D, listOf vs2.toArray n2)] ∧ m (Str.ofString "found") = some (.ref D) ∧ m (Str.ofString "done") = some (.int (done : Nat) td) ∧ m (Str.ofString "free") = some (.ref Fa) ∧ m (Str.ofString "one") = some (.str (sx one) t1) ∧
    StrsAre vs2 (((List.range i).foldl (chg1 free one) acc).map sx)
theorem changed_call {prog : Program} {w : World} {mean mg mb} {A : Around} {s : Shared} {Q E : Value → Shared → Prop} {ws : List Nat} {t : Tok} {Fa : Addr} {fvs : List Value} {free res : List (List Nat)}
   (hd : A.depth < 860) (hh : A.handled = none) (T : TK w mean mg mb s.heap) (hl : ws.length = 4) (hF : s.heap.IsList Fa fvs.toArray) (hfv : StrsAre fvs (free.map sx)) (hrun : chgRun free 30 [ws] 0 = some res)
   (h : ∀ D vs nn s', s'.heap.get? D = some (listOf vs.toArray nn) → s.heap.get? D = none → StrsAre vs (res.map sx) → Kp s s' → Q (.ref D) s') :
   wpAny (model prog w) A (call (.ref 66) [.str (sx ws) t, .ref Fa]) Q E s := by
  have ho := T.k 66 _ rfl
  refine wpAny_call (call_plain_ret (binds := [(Str.ofString "word", .str (sx ws) t), (Str.ofString "free", .ref Fa)]) (by simp only [recursionLimit]; omega) ho rfl T.t.nolimit ?_ rfl (by simp; decide) ?_)
  · have h2 := T.k 65 _ rfl
    exact ⟨_, _, _, _, rfl, h2, rfl, rfl⟩
  intro h₁ F
  have TT := T.t
  have KX := T.k
  have R0 := Rs.refl s.gens s.os
  have N : News s.heap s.heap.objs.size h₁ [] := News.nil
  clear ho
  w_on
  w_top on
  refine gen_Q fun QT hQT => ?_
  repeat ((fail_if_success (with_reducible show wpAny _ _ (exec (Stmt.While _ _ _ _) _) _ _ _)); walk1)
  refine wpAny_While ?_
  refine while_T (CJ free res s.heap.objs.size s Fa) ?_ 30 ⟨_, _, _, _, [ws], 0, _, by assumption, by assumption, R0, rfl, rfl, rfl, .cons _ _ .nil, by simpa using hl, Nat.le_refl _, by simp, hrun⟩
  rintro E' n s₁ ⟨D, vs, nn, m, found, done, td, F, N, R, hm1, hm2, hm3, hvs, hf4, hn, hfl, hr⟩
  have hvl := hvs.length
  rw [List.length_map] at hvl
  rw [norm3 hm1 hm2 hm3] at F
  repeat ((fail_if_success (with_reducible show wpAny _ _ (call (Value.builtin "len") _) _ _ _)); walk1)
  refine kun_lenL (k := (found.length : Nat)) (News.isList (by assumption) (.head _)) (by simp [hvl]) (by omega) ?_
  repeat ((fail_if_success (with_reducible show wpAny _ _ (compareOp _ _ _) _ _ _)); walk1)
  by_cases hlt : done < found.length
  · obtain ⟨n', rfl⟩ : ∃ n', n = n' + 1 := by
      cases n with
      | zero => rw [chgRun, if_pos hlt] at hr; cases hr
      | succ n => exact ⟨n, rfl⟩
    rw [chgRun, if_pos hlt] at hr
    obtain ⟨t1, ht1⟩ := hvs.get done (sx found[done]) (by simp [hlt])
    have e1 : found.getD done [] = found[done] := by simp [List.getD, hlt]
    rw [e1] at hr
    have hone : found[done].length = 4 := hf4 _ (List.getElem_mem hlt)
    generalize found[done] = one at *
    repeat ((fail_if_success (with_reducible show wpAny _ _ (subscriptTail _ _ _ _) _ _ _)); walk1)
    refine r_listItem (News.isList (by assumption) (.head _)) (by omega) (by omega) (by simpa using ht1) ?_
    repeat ((fail_if_success (with_reducible show wpAny _ _ (exec (Stmt.For _ _ _ _ _) _) _ _ _)); walk1)
    refine wpAny_For ?_
    repeat ((fail_if_success (with_reducible show wpAny _ _ (call (Value.type _) _) _ _ _)); walk1)
    refine it_range (n := 3) (by decide) (by assumption) (by assumption) ?_
    intro I h₇ tk₇ F₇ N₇ hlt3
    have hI : @LT.lt Nat _ D I := hlt3 _ (.head _)
    refine for_range (s₀ := s) (L := s.heap.objs.size) (n := 3) (CJ2 free one found D Fa done td t1) hh rfl rfl rfl ⟨_, _, rfl, rfl, rfl, rfl, rfl, hvs⟩ F₇ N₇ (fun p hp => Nat.ne_of_lt (hlt3 p hp)) R ?_ ?_
    · rintro E3 k t3 s3 m3 own3 o3 hk ⟨vs3, n3, rfl, hm4, hm5, hm6, hm7, hvs3⟩ F N R off3
      have hpart := chg_part (free := free) hone hf4 k (by omega)
      generalize hac3 : (List.range k).foldl (chg1 free one) found = acc3 at *
      have hac4 : (List.range (k + 1)).foldl (chg1 free one) found = chg1 free one acc3 k := by rw [List.range_succ, List.foldl_append, hac3]; rfl
      have hv3l := hvs3.length
      rw [List.length_map] at hv3l
      have ho100 : one.length ≤ 100 := by omega
      have hb3 : acc3.length ≤ 200 := by have := hpart.2; omega
      clear hpart hfl hn hvl hl
      rw [norm4 hm4 hm5 hm6 hm7] at F
      refine gen_Q fun Q0 hQ0 => ?_
      repeat ((fail_if_success (with_reducible show wpAny _ _ (compareOp _ _ _) _ _ _)); walk1)
      have hFa : ∀ h', Fr s.heap s.heap.objs.size h' (fun y => if y = Str.ofString "found" then some (Value.ref D) else none) → h'.IsList Fa fvs.toArray := fun h' F' => by obtain ⟨o, e, r⟩ := hF; exact ⟨o, F'.keep _ _ e, r⟩
      refine r_inL (x := pr2 one k) (by obtain ⟨o, e, r⟩ := hF; exact ⟨o, Fr.keep (by assumption) _ _ e, r⟩) hfv ?_
      by_cases hin : pr2 one k ∈ free
      · have hdec : decide (pr2 one k ∈ free) = true := decide_eq_true hin
        repeat ((fail_if_success (with_reducible show wpAny _ _ (compareOp _ _ _) _ _ _)); walk1)
        refine r_notinL (x := swp one k) (News.isList (by assumption) (.tail _ (.head _))) hvs3 ?_
        by_cases hin2 : swp one k ∈ acc3
        · have hdec2 : decide (swp one k ∈ acc3) = true := decide_eq_true hin2
          repeat walk1
          subst hQ0
          refine ⟨_, _, ⟨vs3, n3, rfl, rfl, rfl, rfl, rfl, ?_⟩, by assumption, by assumption, R, off3⟩
          rw [hac4, chg1, if_neg (fun z => z.2 hin2)]; exact hvs3
        · have hdec2 : decide (swp one k ∈ acc3) = false := decide_eq_false hin2
          repeat ((fail_if_success (with_reducible show wpAny _ _ (call (Value.builtin "list.append") _) _ _ _)); walk1)
          refine append_K (by assumption) (by assumption) (by k_upd) ?_ (by rw [sizeLine_eq]; simp; omega)
          intro h8 F8 N8
          simp only [List.push_toArray] at N8
          repeat walk1
          subst hQ0
          refine ⟨_, _, ⟨vs3 ++ [_], n3 + 1, rfl, rfl, rfl, rfl, rfl, ?_⟩, by assumption, by assumption, R, off_map (by rfl) off3⟩
          rw [hac4, chg1, if_pos ⟨hin, hin2⟩, List.map_append]
          exact hvs3.append' (.cons _ _ .nil)
      · have hdec : decide (pr2 one k ∈ free) = false := decide_eq_false hin
        repeat walk1
        subst hQ0
        refine ⟨_, _, ⟨vs3, n3, rfl, rfl, rfl, rfl, rfl, ?_⟩, by assumption, by assumption, R, off3⟩
        rw [hac4, chg1, if_neg (fun z => hin z.1)]; exact hvs3
    · rintro s3 m3 own3 ⟨vs3, n3, rfl, hm4, hm5, hm6, hm7, hvs3⟩ F N R
      rw [norm3 hm4 hm5 hm6] at F
      dsimp only
      repeat walk1
      have hp := chg_part (free := free) hone hf4 3 (by omega)
      exact ⟨n', Nat.lt_succ_self _, D, vs3, n3, _, _, done + 1, _, by assumption, by assumption, R, rfl, rfl, rfl, hvs3, hp.1, by omega, by have := hp.2; omega, hr⟩
  · have hrf : found = res := by
      cases n with
      | zero => rw [chgRun, if_neg hlt] at hr; exact Option.some.inj hr
      | succ n => rw [chgRun, if_neg hlt] at hr; exact Option.some.inj hr
    subst hrf
    repeat walk1
    subst hQT
    exact h D vs nn _ (N _ (.head _)).1 (N _ (.head _)).2.2 hvs (Kp.of (by assumption) R)

noncomputable def DG (_ v1 v2 : Value) : Prop := ∃ (k s : Int) (t1 t2 : Tok), v1 = .int k t1 ∧ v2 = .int s t2 ∧ 0 ≤ k ∧ k ≤ 3
noncomputable def DJ (OWN : List (Addr × Obj)) (i : Nat) (_ : Str → Option Value) (ys : List Value) (own : List (Addr × Obj)) : Prop := own = OWN ∧ i ≤ 4 ∧ ∃ ds : List Int, IntsAre ys ds ∧ ds.length = i
noncomputable def DJ2 (OWN : List (Addr × Obj)) (i : Nat) (_ : Str → Option Value) (ys : List Value) (own : List (Addr × Obj)) : Prop := own = OWN ∧ i ≤ 100 ∧ ∃ ds : List Int, IntsAre ys ds ∧ ds.length = i
theorem law_start {prog : Program} {w : World} {mean mg mb} {A : Around} {s : Shared} {Q E : Value → Shared → Prop} {Sa : Addr} {vs : List Value} {ns : List Int}
   (hd : A.depth < 500) (hh : A.handled = none) (T : TK w mean mg mb s.heap) (hS : s.heap.IsList Sa vs.toArray) (hi : IntsAre vs ns) (hn : ns.length ≤ 63)
   (next : ∀ fd body, (Mine.hd.heap_39 w.params).lookup 83 = some { cls := .type "function", data := .func fd } → fd.body = .stmts body → ∀ (D : Addr) (ys : List Value) (ds : List Int) (s₁ : Shared) (oF oS oR oG oK oC : Obj), IntsAre ys ds → ds.length = 4 →
      oF.data = .cell none → oS.data = .cell none → oR.data = .cell none → oG.data = .cell none → oK.data = .cell none → oC.data = .cell (some (.ref Sa)) →
      Fr s.heap s.heap.objs.size s₁.heap (fun z => if z = Str.ofString "draws" then some (.ref D) else none) →
      News s.heap s.heap.objs.size s₁.heap [(D, LCg.lst ys), (s.heap.objs.size + 1 + 1 + 1 + 1 + 1 + 1, oF), (s.heap.objs.size + 1 + 1 + 1 + 1 + 1, oS), (s.heap.objs.size + 1 + 1 + 1 + 1, oR), (s.heap.objs.size + 1 + 1 + 1, oG), (s.heap.objs.size + 1 + 1, oK), (s.heap.objs.size + 1, oC)] →
      Rs s.gens s.os s₁.gens s₁.os →
      (@Ne Nat D (s.heap.objs.size + 1)) ∧ (@Ne Nat D (s.heap.objs.size + 1 + 1)) ∧ (@Ne Nat D (s.heap.objs.size + 1 + 1 + 1)) ∧ (@Ne Nat D (s.heap.objs.size + 1 + 1 + 1 + 1)) ∧ (@Ne Nat D (s.heap.objs.size + 1 + 1 + 1 + 1 + 1)) ∧ (@Ne Nat D (s.heap.objs.size + 1 + 1 + 1 + 1 + 1 + 1)) →
      wpAny (model prog w) (A.deeper (envOfC fd.name fd.scope s.heap.objs.size 83 fd.code)) (execs (body.drop 1) (envOfC fd.name fd.scope s.heap.objs.size 83 fd.code)) (fun f s' => Q (match f with | .ret v => v | _ => .none) s') (fun _ _ => False) s₁) :
   wpAny (model prog w) A (call (.ref 83) [.ref Sa]) Q E s := by
  have ho := T.k 83 _ rfl
  refine wpAny_call (call_cellsN_ret (binds := [(Str.ofString "script", .ref Sa)]) (by simp only [recursionLimit]; omega) ho rfl T.t.nolimit ?_ rfl ?_ ?_ ?_)
  · have h2 := T.k 82 _ rfl
    exact ⟨_, _, _, _, rfl, h2, rfl, rfl⟩
  · intro x hx
    rcases List.mem_cons.mp hx with rfl | hx
    · exact .inr ⟨rfl, rfl⟩
    · cases hx
  · decide
  intro h₁ tk cells F N Y
  have TT := T.t
  have KX := T.k
  have R0 := Rs.refl s.gens s.os
  clear ho
  w_on
  w_top on
  cases Y with | @cons _ _ oF _ _ h1 Y => 
  cases Y with | @cons _ _ oS _ _ h2 Y => 
  cases Y with | @cons _ _ oR _ _ h3 Y => 
  cases Y with | @cons _ _ oG _ _ h4 Y => 
  cases Y with | @cons _ _ oK _ _ h5 Y => 
  cases Y with | @cons _ _ oC _ _ h6 Y => 
  cases Y
  replace h1 : oF.data = .cell none := h1
  replace h2 : oS.data = .cell none := h2
  replace h3 : oR.data = .cell none := h3
  replace h4 : oG.data = .cell none := h4
  replace h5 : oK.data = .cell none := h5
  replace h6 : oC.data = .cell (some (.ref Sa)) := h6
  walk1
  refine lc_assign (cl := [(Str.ofString "script", s.heap.objs.size + 1)]) ?hsw ?hclos ?hkind ?hnames ?hgo ?hs
  case hsw => with_unfolding_all rfl
  case hclos => rfl
  case hkind => rfl
  case hnames => decide
  case hs => intro _; rfl
  repeat ((fail_if_success (with_reducible show wpAny _ _ (pyIter _) _ _ _)); walk1)
  rename_i D1 _ _ D2 _ _ D3 _ _ D4 _ _ D5 _ F5 N5 l5
  replace F5 : Fr s.heap s.heap.objs.size _ (fun _ => none) := F5
  obtain ⟨OWN, N5', hOWN⟩ : ∃ OWN, News s.heap s.heap.objs.size _ OWN ∧ OWN = _ := ⟨_, N5, rfl⟩
  refine it_tup (News.isTup N5 (.head _)) F5 N5' ?_
  intro I h₂ o hI F₂ N₂ hlt
  refine cgo_intro (s₀ := s) (L := s.heap.objs.size) (by decide) rfl (It.tup (A := A.deeper _) (l := D5) (items := #[.ref D1, .ref D2, .ref D3, .ref D4]) hh) hI F₂ N₂ (fun p hp => Nat.ne_of_lt (hlt p hp)) (DJ OWN 4) ?loop (fin_assign rfl rfl rfl ?fin)
  case loop =>
    subst hOWN
    intro C D oC2 s₁ hC F₃ N₃ off ne hg ho
    refine comp_loop rfl rfl (It.tup (A := A.deeper _) (l := D5) (items := #[.ref D1, .ref D2, .ref D3, .ref D4]) hh) (DJ _) (TSQ DG (Str.ofString "k") (Str.ofString "s")) ?_ ?_ ?_ hC ⟨rfl, by decide, [], .nil, rfl⟩ hI F₃ N₃ off ne (by rw [hg, ho]; exact R0) ?_
    · refine asg_comp_pair (A := A.deeper _) hh (by rfl) (by rfl) (by rfl) ⟨ne.1, ne.2.2⟩ ?_
      rintro i v mC ys own h' hv ⟨rfl, _⟩ F' N'
      have g1 : h'.IsTuple D1 _ := News.isTup N' (.tail _ (.tail _ (.tail _ (.tail _ (.head _)))))
      have g2 : h'.IsTuple D2 _ := News.isTup N' (.tail _ (.tail _ (.tail _ (.head _))))
      have g3 : h'.IsTuple D3 _ := News.isTup N' (.tail _ (.tail _ (.head _)))
      have g4 : h'.IsTuple D4 _ := News.isTup N' (.tail _ (.head _))
      match i, hv with
      | 0, hv => cases hv; exact ⟨D1, _, _, rfl, g1, _, _, _, _, rfl, rfl, by decide, by decide⟩
      | 1, hv => cases hv; exact ⟨D2, _, _, rfl, g2, _, _, _, _, rfl, rfl, by decide, by decide⟩
      | 2, hv => cases hv; exact ⟨D3, _, _, rfl, g3, _, _, _, _, rfl, rfl, by decide, by decide⟩
      | 3, hv => cases hv; exact ⟨D4, _, _, rfl, g4, _, _, _, _, rfl, rfl, by decide, by decide⟩
      | i + 4, hv => simp at hv
    · rintro i mC ys own h' ⟨rfl, _⟩ _ N'
      exact News.isTup N' (.head _)
    · rintro i mC ys own ⟨rfl, hi4, ds, hds, hdl⟩
      have := hds.length
      omega
    · rintro E' i v s₁ oI oC3 mC mC' ys own hi2 hv ⟨rfl, hi4, ds, hds, hdl⟩ ⟨v1, v2, ⟨k, sd, t1, t2, rfl, rfl, hk0, hk3⟩, hTS⟩ hO hC F N off R
      refine wpAny_tests_nil ?_
      simp only [if_true]
      refine gen_Q fun Q9 hQ9 => ?_
      have hx1 : mC' (Str.ofString "k") = some (.int k t1) := by rw [hTS]; rfl
      have hx2 : mC' (Str.ofString "s") = some (.int sd t2) := by rw [hTS]; rfl
      repeat ((fail_if_success (with_reducible show wpAny _ _ (eval (Expr.ListComp _ _ _ _) _) _ _ _)); walk1)
      refine lc_go (cl := []) (by rfl) (by rfl) (by decide) ?_ (by intro _; rfl)
      repeat ((fail_if_success (with_reducible show wpAny _ _ (subscriptTail _ _ _ _) _ _ _)); walk1)
      obtain ⟨ms, hms⟩ := pick_ints hi (some k) (some 63) (some 4)
      have hvn := hi.length
      have hpl : (slicePick vs.toArray (some k) (some 63) (some 4)).toList.length ≤ vs.length := by
        rw [Array.length_toList]; simpa using slicePick_size_le vs.toArray (some k) (some 63) (some 4)
      have hSl : s₁.heap.IsList Sa vs.toArray := by obtain ⟨o, e, r⟩ := hS; exact ⟨o, F.keep _ _ e, r⟩
      refine kmk_slice3_lit (s := ⟨_, _, _, _, _⟩) F N hSl (.int _ _) (.int _ _) (.int _ _) (by decide) rfl ?_ (by with_unfolding_all rfl) (by intro _; with_unfolding_all rfl) (by rw [sizeLine_eq, List.size_toArray]; omega)
      intro D6 h6 F6 N6 l6
      have hz6 : (slicePick vs.toArray (some k) (some 63) (some 4)).toList.length ≤ 63 := by omega
      generalize (slicePick vs.toArray (some k) (some 63) (some 4)).toList = vs6 at hms N6 hz6
      have hv6 := hms.length
      have hD6 : News s.heap s.heap.objs.size h6 _ := N6
      obtain ⟨OWN2, N6', hOWN2⟩ : ∃ OWN, News s.heap s.heap.objs.size _ OWN ∧ OWN = _ := ⟨_, N6, rfl⟩
      refine it_list (News.isList N6 (.head _)) F6 N6' ?_
      intro I6 h7 o6 hI6 F7 N7 hlt6
      refine cgo_intro (s₀ := s) (L := s.heap.objs.size) (by decide) (by rfl) (It.list (A := A.deeper _) (l := D6) (items := vs6.toArray) hh) hI6 F7 N7 (fun p hp => Nat.ne_of_lt (hlt6 p hp)) (DJ2 OWN2 vs6.length) ?_ (fin_none ?_)
      · intro C6 D7 oC7 s6 hC6 F8 N8 off6 ne6 hg6 ho6
        refine comp_loop (by rfl) (by rfl) (It.list (A := A.deeper _) (l := D6) (items := vs6.toArray) hh) (DJ2 OWN2) (TSN (Str.ofString "x")) ?_ ?_ ?_ hC6 ⟨rfl, by omega, [], .nil, rfl⟩ hI6 F8 N8 off6 ne6 (by rw [hg6, ho6]; exact R) ?_
        · exact asg_comp (OK := fun i o => IsLI o D6 i) (by rfl) (by rfl) (fun _ => rfl) ⟨ne6.1, ne6.2.2⟩
        · rintro i mC ys own h' ⟨rfl, _⟩ _ N'
          subst hOWN2
          exact News.isList N' (.head _)
        · rintro i mC ys own ⟨rfl, hi4, ds, hds, hdl⟩
          have := hds.length
          omega
        · rintro E6 i6 v6 s7 oI7 oC8 mC6 mC7 ys6 own6 hi6 hv6' ⟨rfl, hi7, ds6, hds6, hdl6⟩ hTS6 hO6 hC7 F9 N9 off9 R9
          subst hOWN2
          obtain ⟨a6, t6, rfl⟩ : ∃ a t, v6 = .int a t := by
            obtain ⟨a, t, h1, _⟩ := ints_item hms i6 v6 (by simpa using hv6')
            exact ⟨a, t, h1⟩
          refine wpAny_tests_nil ?_
          simp only [if_true]
          refine gen_Q fun Q9 hQ9 => ?_
          have hx6 : mC7 (Str.ofString "x") = some (.int a6 t6) := by rw [hTS6]; rfl
          repeat ((fail_if_success (with_reducible show wpAny _ _ (binaryOp _ _ _) _ _ _)); walk1)
          refine r_modpos (by decide) fun p9 t9 k9 _ _ => ?_
          have hi8 : i6 < vs6.length := by simpa using hi6
          subst hQ9
          exact ⟨_, _, _, hC7, ⟨rfl, by omega, ds6 ++ [p9], hds6.append (.cons _ _ .nil), by simp [hdl6]⟩, F9, N9, off9, R9⟩
      · subst hOWN2
        rintro D7 mC7 ys7 own7 s7 ⟨rfl, hi7, ds7, hds7, hdl7⟩ F8 N8 off8 R8
        repeat ((fail_if_success (with_reducible show wpAny _ _ (call (Value.builtin "sum") _) _ _ _)); walk1)
        refine sumK hh F8 N8 ⟨_, (N8 _ (.head _)).1, rfl, _, rfl⟩ hds7 fun h9 tk9 t9 F9 N9 => ?_
        repeat walk1
        have hi5 : i < 4 := hi2
        subst hQ9
        exact ⟨_, _, _, hC, ⟨rfl, hi5, ds ++ [_], hds.append (.cons _ _ .nil), by simp [hdl]⟩, F9, fun p hp => N9 p (.tail _ (.tail _ hp)), off, R8⟩
  case fin =>
    subst hOWN
    rintro D mC ys own s₁ ⟨rfl, hi4, ds, hds, hdl⟩ F N off R
    have N3 : News s.heap s.heap.objs.size s₁.heap [(D, LCg.lst ys), (s.heap.objs.size + 1 + 1 + 1 + 1 + 1 + 1, oF), (s.heap.objs.size + 1 + 1 + 1 + 1 + 1, oS), (s.heap.objs.size + 1 + 1 + 1 + 1, oR), (s.heap.objs.size + 1 + 1 + 1, oG), (s.heap.objs.size + 1 + 1, oK), (s.heap.objs.size + 1, oC)] := by
      intro p hp
      rcases List.mem_cons.mp hp with rfl | hp
      · exact N _ (.head _)
      · exact N _ (.tail _ (.tail _ (.tail _ (.tail _ (.tail _ (.tail _ hp))))))
    have hne : ∀ q : Addr × Obj, q ∈ _ → @Ne Nat D q.1 := fun q hq => Ne.symm (off q hq)
    exact next _ _ rfl rfl D ys ds s₁ oF oS oR oG oK oC hds hdl h1 h2 h3 h4 h5 h6 F N3 R ⟨hne (_, oC) (.tail _ (.tail _ (.tail _ (.tail _ (.tail _ (.tail _ (.tail _ (.tail _ (.tail _ (.tail _ (.head _))))))))))), hne (_, oK) (.tail _ (.tail _ (.tail _ (.tail _ (.tail _ (.tail _ (.tail _ (.tail _ (.tail _ (.head _)))))))))), hne (_, oG) (.tail _ (.tail _ (.tail _ (.tail _ (.tail _ (.tail _ (.tail _ (.tail _ (.head _))))))))), hne (_, oR) (.tail _ (.tail _ (.tail _ (.tail _ (.tail _ (.tail _ (.tail _ (.head _)))))))), hne (_, oS) (.tail _ (.tail _ (.tail _ (.tail _ (.tail _ (.tail _ (.head _))))))), hne (_, oF) (.tail _ (.tail _ (.tail _ (.tail _ (.tail _ (.head _))))))⟩

noncomputable def WDJ (OWN : List (Addr × Obj)) (l : List Nat) (i : Nat) (_ : Str → Option Value) (ys : List Value) (own : List (Addr × Obj)) : Prop :=
  own = OWN ∧ i ≤ 4 ∧ ∃ ws : List Nat, StrsAre ys ((ws.map (fun c => [c])).map sx) ∧ ws.length = i ∧ ∀ c ∈ ws, c ∈ l
theorem seg1 {prog : Program} {w : World} {mean mg mb} {A : Around} {s : Shared} {Q : Value → Shared → Prop} {fd : FuncData} {body : List Stmt} {D : Addr} {ys : List Value} {ds : List Int} {s₁ : Shared} {oF oS oR oG oK oC : Obj} {vC : Option Value}
   (hf : (Mine.hd.heap_39 w.params).lookup 83 = some { cls := .type "function", data := .func fd }) (hb : fd.body = .stmts body)
   (hd : A.depth < 500) (hh : A.handled = none) (T : TK w mean mg mb s.heap) (hds : IntsAre ys ds) (hdl : ds.length = 4)
   (h1 : oF.data = .cell none) (h2 : oS.data = .cell none) (h3 : oR.data = .cell none) (h4 : oG.data = .cell none) (h5 : oK.data = .cell none) (h6 : oC.data = .cell vC)
   (F : Fr s.heap s.heap.objs.size s₁.heap (fun z => if z = Str.ofString "draws" then some (.ref D) else none))
   (N : News s.heap s.heap.objs.size s₁.heap [(D, LCg.lst ys), (s.heap.objs.size + 1 + 1 + 1 + 1 + 1 + 1, oF), (s.heap.objs.size + 1 + 1 + 1 + 1 + 1, oS), (s.heap.objs.size + 1 + 1 + 1 + 1, oR), (s.heap.objs.size + 1 + 1 + 1, oG), (s.heap.objs.size + 1 + 1, oK), (s.heap.objs.size + 1, oC)])
   (R : Rs s.gens s.os s₁.gens s₁.os) (hDo : (@Ne Nat D (s.heap.objs.size + 1)) ∧ (@Ne Nat D (s.heap.objs.size + 1 + 1)) ∧ (@Ne Nat D (s.heap.objs.size + 1 + 1 + 1)) ∧ (@Ne Nat D (s.heap.objs.size + 1 + 1 + 1 + 1)) ∧ (@Ne Nat D (s.heap.objs.size + 1 + 1 + 1 + 1 + 1)) ∧ (@Ne Nat D (s.heap.objs.size + 1 + 1 + 1 + 1 + 1 + 1)))
   (next : ∀ fd body, (Mine.hd.heap_39 w.params).lookup 83 = some { cls := .type "function", data := .func fd } → fd.body = .stmts body → ∀ (a b c : Nat) (ws : List Nat) (p : Int) (tl tp tw tr : Tok) (oF oS oR oG oK : Obj) (s₂ : Shared) (m : Str → Option Value), [a, b, c].Nodup → (∀ x ∈ [a, b, c], x ∈ cs8) → ws.length = 4 → (∀ x ∈ ws, x ∈ [a, b, c]) → 0 ≤ p → p < 3 →
      oF.data = .cell none → oS.data = .cell none → oR.data = .cell (some (.str (sx cs8) tr)) → oG.data = .cell (some (.int (3 + p) tp)) → oK.data = .cell (some (.str (sx [a, b, c]) tl)) → m (Str.ofString "word") = some (.str (sx ws) tw) →
      Fr s.heap s.heap.objs.size s₂.heap m →
      News s.heap s.heap.objs.size s₂.heap [(s.heap.objs.size + 1 + 1 + 1 + 1 + 1 + 1, oF), (s.heap.objs.size + 1 + 1 + 1 + 1 + 1, oS), (s.heap.objs.size + 1 + 1 + 1 + 1, oR), (s.heap.objs.size + 1 + 1 + 1, oG), (s.heap.objs.size + 1 + 1, oK), (s.heap.objs.size + 1, oC)] →
      Rs s.gens s.os s₂.gens s₂.os →
      wpAny (model prog w) (A.deeper (envOfC fd.name fd.scope s.heap.objs.size 83 fd.code)) (execs (body.drop 5) (envOfC fd.name fd.scope s.heap.objs.size 83 fd.code)) (fun f s' => Q (match f with | .ret v => v | _ => .none) s') (fun _ _ => False) s₂) :
   wpAny (model prog w) (A.deeper (envOfC fd.name fd.scope s.heap.objs.size 83 fd.code)) (execs (body.drop 1) (envOfC fd.name fd.scope s.heap.objs.size 83 fd.code)) (fun f s' => Q (match f with | .ret v => v | _ => .none) s') (fun _ _ => False) s₁ := by
  have e2 : List.lookup 83 (Mine.hd.heap_39 w.params) = some _ := rfl
  rw [e2] at hf
  cases hf
  cases hb
  obtain ⟨hD1, hD2, hD3, hD4, hD5, hD6⟩ := hDo
  have TT := T.t
  have KX := T.k
  simp only [List.drop_succ_cons, List.drop_zero]
  w_on
  w_top on
  repeat ((fail_if_success (with_reducible show wpAny _ _ (call (Value.ref 52) _) _ _ _)); walk1)
  refine kinds_call (by show A.depth + 1 < 900; omega) (T.keeps F.keep) (News.isList N (.head _)) hds hdl hh ?_
  intro l tl s2 hl3 hnd hcs K2
  have F2 := fr_kp F K2
  have N2 := news_kp N K2
  have R2 := R.trans K2.rest
  clear F N
  repeat ((fail_if_success (with_reducible show wpAny _ _ (subscriptTail _ _ _ _) _ _ _)); walk1)
  have hyl := hds.length
  obtain ⟨d3, t3, hy3, _⟩ := ints_item hds 3 ys[3] (by simp)
  have hy3' : ys[3]? = some (.int d3 t3) := by rw [← hy3]; simp
  refine r_listItem (News.isList (by assumption) (.head _)) (by decide) (by decide) (by simpa using hy3') ?_
  repeat ((fail_if_success (with_reducible show wpAny _ _ (binaryOp Operator.Mod _ _) _ _ _)); walk1)
  refine r_modpos (by decide) fun p tp kp hp0 hp3 => ?_
  repeat ((fail_if_success (with_reducible show wpAny _ _ (eval (Expr.ListComp _ _ _ _) _) _ _ _)); walk1)
  rename Fr _ _ _ _ => F3
  rename News _ _ _ _ => N3
  refine lc_go (cl := [(Str.ofString "kinds", s.heap.objs.size + 1 + 1)]) (by rfl) (by rfl) (by decide) ?_ (by intro _; rfl)
  walk1
  obtain ⟨OWN, N3', hOWN⟩ : ∃ OWN, News s.heap s.heap.objs.size _ OWN ∧ OWN = _ := ⟨_, N3, rfl⟩
  refine it_list (items := ys.toArray) (News.isList N3 (.head _)) F3 N3' ?_
  intro I h₂ o hI F₂ N₂ hlt
  have hhI : @LT.lt Nat _ D I := hlt _ (by rw [hOWN]; exact .head _)
  refine cgo_intro (s₀ := s) (L := s.heap.objs.size) (by decide) (by rfl) (It.list (A := A.deeper _) (l := D) (items := ys.toArray) hh) hI F₂ N₂ (fun p hp => Nat.ne_of_lt (hlt p hp)) (WDJ OWN l ys.toArray.size) ?_ (fin_none ?_)
  · intro C D7 oC7 s6 hC6 F8 N8 off6 ne6 hg6 ho6
    subst hOWN
    have hn4 : ys.toArray.size = 4 := by simp; omega
    refine comp_loop (by rfl) (by rfl) (It.list (A := A.deeper _) (l := D) (items := ys.toArray) hh) (WDJ _ l) (TSN (Str.ofString "s")) ?_ ?_ ?_ hC6 ⟨rfl, by omega, [], .nil, rfl, by simp⟩ hI F8 N8 off6 ne6 (by rw [hg6, ho6]; exact R2) ?_
    · exact asg_comp (OK := fun i o => IsLI o D i) (by rfl) (by rfl) (fun _ => rfl) ⟨ne6.1, ne6.2.2⟩
    · rintro i mC ys own h' ⟨rfl, _⟩ _ N'
      exact News.isList N' (.head _)
    · rintro i mC ys own ⟨rfl, hi4, ds, hds, hdl, _⟩
      have := hds.length
      simp at this
      omega
    · rintro E6 i6 v6 s7 oI7 oC8 mC6 mC7 ys6 own6 hi6 hv6' ⟨rfl, hi7, ws, hws, hwl, hwm⟩ hTS6 hO6 hC7 F9 N9 off9 R9
      obtain ⟨a6, t6, rfl⟩ : ∃ a t, v6 = .int a t := by
        obtain ⟨a, t, h1, _⟩ := ints_item hds i6 v6 (by simpa using hv6')
        exact ⟨a, t, h1⟩
      refine wpAny_tests_nil ?_
      simp only [if_true]
      refine gen_Q fun Q9 hQ9 => ?_
      have hx6 : mC7 (Str.ofString "s") = some (.int a6 t6) := by rw [hTS6]; rfl
      repeat ((fail_if_success (with_reducible show wpAny _ _ (binaryOp Operator.Mod _ _) _ _ _)); walk1)
      refine r_modpos (by decide) fun p9 t9 k9 hp90 hp93 => ?_
      repeat walk1
      rw [hn4] at hi6
      have hmem : l.getD p9.toNat 0 ∈ l := by
        have hlt : p9.toNat < l.length := by omega
        have e : l.getD p9.toNat 0 = l[p9.toNat] := by simp [List.getD, hlt]
        rw [e]; exact List.getElem_mem hlt
      subst hQ9
      refine ⟨_, _, _, hC7, ⟨rfl, by omega, ws ++ [l.getD p9.toNat 0], ?_, by simp [hwl], ?_⟩, F9, N9, off9, R9⟩
      · rw [List.map_append, List.map_append]
        exact hws.append' (.cons _ _ .nil)
      · intro c hc
        rcases List.mem_append.mp hc with hc | hc
        · exact hwm c hc
        · rw [List.mem_singleton.mp hc]; exact hmem
  · subst hOWN
    rintro D7 mC7 ys7 own7 s7 ⟨rfl, hi7, ws, hws, hwl, hwm⟩ F8 N8 off8 R8
    repeat ((fail_if_success (with_reducible show wpAny _ _ (call (Value.builtin "str.join") _) _ _ _)); walk1)
    have hw4 : ws.length = 4 := by rw [hwl]; simp; omega
    refine r_join (ls := ws.map (fun c => [c])) ⟨_, (N8 _ (.head _)).1, rfl, _, rfl⟩ hws (by simp; omega) ?_ ?_
    · intro x hx
      obtain ⟨c, _, rfl⟩ := List.mem_map.mp hx
      simp
    intro tw kw
    have hfl : (ws.map (fun c => [c])).flatten = ws := by
      clear hws hwl hwm hw4
      induction ws with
      | nil => rfl
      | cons c r ih => simp [ih]
    rw [hfl]
    have N9 : News s.heap s.heap.objs.size s7.heap _ := fun p hp => N8 p (.tail _ (.tail _ hp))
    clear N8
    repeat ((fail_if_success (with_reducible show wpAny _ _ (storeName _ (Str.ofString "ranks") _) _ _ _)); walk1)
    walk1
    rename_i F9 N9 hR
    obtain ⟨a, b, c, rfl⟩ : ∃ a b c, l = [a, b, c] := by
      match l, hl3 with
      | [a, b, c], _ => exact ⟨a, b, c, rfl⟩
    exact next _ _ rfl rfl a b c ws p _ _ _ _ oF oS _ _ _ _ _ hnd hcs hw4 hwm hp0 hp3 h1 h2 hR (by assumption) (by assumption) rfl F9 N9 R8

noncomputable def rk (c : Nat) : Nat := if c = 43 then 0 else if c = 45 then 1 else if c = 42 then 2 else if c = 47 then 3 else if c = 124 then 4 else if c = 38 then 5 else if c = 60 then 6 else 7
theorem find_rk {c : Nat} (h : c ∈ cs8) : Builtin.Str.occurrences (sx cs8) (sx [c]) 0 (sx cs8).length 1 = [rk c] := by
  have : ∀ c ∈ cs8, Builtin.Str.occurrences (sx cs8) (sx [c]) 0 (sx cs8).length 1 = [rk c] := by decide +kernel
  exact this c h
section
variable {prog : Program} {w : World} {A : Around} {E : Value → Shared → Prop} {s : Shared} {mean : ExcName → Option Value} {mg mb : Str → Option Value} {h₀ : Heap} {L : Addr} {m : Str → Option Value}
theorem r_rank {c : Nat} {t u : Tok} {Q : Value → Shared → Prop} (hc : c ∈ cs8) (h : ∀ t' k, Q (.int (rk c : Nat) t') { s with toks := k }) : wpAny (model prog w) A (call (.builtin "str.find") [.str (sx cs8) t, .str (sx [c]) u]) Q E s := by
  refine PySem.W.KXw.find (i := (rk c : Nat)) ?_ h
  unfold Txt.find
  rw [find_rk hc]
theorem r_exact {value slice : Expr} {c : Nat} {t : Tok} {Q : Value → Shared → Prop} (F : Fr h₀ L s.heap m) (T : TK w mean mg mb h₀) (hc : c ∈ cs8) (h : ∀ t', Q (.int (14 + (rk c : Nat)) t') { s with toks := s.toks + 1 })
    (hs : subscripted slice false (.ref 36) (.str (sx [c]) t) = operate [.ref 36, .str (sx [c]) t] (getItem (.ref 36) (.str (sx [c]) t)) := by with_unfolding_all rfl) :
    wpAny (model prog w) A (subscriptTail value slice (.ref 36) (.str (sx [c]) t)) Q E s := by
  have X := T.k
  have e : ∃ t, nsIn (Mine.hd.heap_39 w.params) 36 (sx [c]) = some (some (.int (14 + (rk c : Nat)) t)) := by
    unfold cs8 at hc
    simp only [List.mem_cons, List.not_mem_nil, or_false] at hc
    rcases hc with rfl | rfl | rfl | rfl | rfl | rfl | rfl | rfl
    all_goals exact ⟨_, rfl⟩
  obtain ⟨t', e⟩ := e
  refine topItem_K F X (by rfl) ?_ e (h t') hs
  with_unfolding_all k_keys
theorem r_two {b : Nat} {t u : Tok} {Q : Value → Shared → Prop} (h : ∀ t' k, Q (.str (sx [b, b]) t') { s with toks := k }) : wpAny (model prog w) A (binaryOp .Mult (.str (sx [b]) t) (.int 2 u)) Q E s := by
  refine SB.mul (mulOk_of 1 2 (by rw [sx_len]; exact Nat.le_refl _) (by decide) (by decide) (by decide) (by decide)) fun t' k => ?_
  have e : Txt.mul (sx [b]) 2 = sx [b, b] := rfl
  rw [e]; exact h t' k
end
theorem term_call {prog : Program} {w : World} {mean mg mb} {A : Around} {s : Shared} {Q E : Value → Shared → Prop} {x : Int} {t : Tok}
   (hd : A.depth < 860) (T : TK w mean mg mb s.heap) (h : ∀ s', Kp s s' → Q (.bool (decide (x < 256))) s') :
   wpAny (model prog w) A (call (.ref 45) [.int x t]) Q E s := by
  have ho := T.k 45 _ rfl
  refine wpAny_call (call_plain_ret (binds := [(Str.ofString "x", .int x t)]) (by simp only [recursionLimit]; omega) ho rfl T.t.nolimit ?_ rfl (by simp) ?_)
  · have h2 := T.k 44 _ rfl
    exact ⟨_, _, _, _, rfl, h2, rfl, rfl⟩
  intro h₁ F
  have TT := T.t
  have KX := T.k
  have R0 := Rs.refl s.gens s.os
  have N : News s.heap s.heap.objs.size h₁ [] := News.nil
  clear ho
  w_on
  w_top on
  repeat walk1
  exact h _ (Kp.of F R0)

theorem truthy_as {M : Model} {A : Around} {E : Value → Shared → Prop} {s : Shared} {b b' : Bool} {Q : Bool → Shared → Prop} (e : b = b') (h : Q b' s) : wpAny M A (truthy (.bool b)) Q E s := by
  subst e; exact wpAny_truthy_bool h
theorem start_self {prog : Program} {w : World} {A : Around} {R : Result → Shared → Prop} {s : Shared} {elt : Expr} {gens : List Comprehension} {d : Nat} {target iter : Expr} {ifs : List Expr} {scope : Scope} {pos : Pos} {acc : Value} {env : Env} {I : Addr} {n : Nat} {P : Nat → Value → Prop} {OK : Nat → Obj → Prop} {X : Heap → Prop} {o : Obj}
    (hg : gens[d]? = some ⟨target, iter, ifs, 0⟩) (W : It prog w A I n P OK X) (hO : OK 0 o) (ho : s.heap.get? I = some o) (key : codeAny (model prog w) A (.compLoop (.ListComp elt gens scope pos) d (.ref I) acc env) R s) :
    codeAny (model prog w) A (.compStart (.ListComp elt gens scope pos) d (.ref I) acc env) R s :=
  start_any hg key (W.self _ _ o _ hO ho key)
theorem perm_own {h₀ h : Heap} {L I2 I C D : Addr} {o2 o oC oD : Obj} {own : List (Addr × Obj)} (N : News h₀ L h ((I2, o2) :: (I, o) :: (C, oC) :: (D, oD) :: own)) : ∃ OWN2, OWN2 = (I, o) :: own ∧ News h₀ L h ((I2, o2) :: (C, oC) :: (D, oD) :: OWN2) := by
  refine ⟨_, rfl, fun q hq => ?_⟩
  rcases List.mem_cons.mp hq with rfl | hq
  · exact N _ (.head _)
  rcases List.mem_cons.mp hq with rfl | hq
  · exact N _ (.tail _ (.tail _ (.head _)))
  rcases List.mem_cons.mp hq with rfl | hq
  · exact N _ (.tail _ (.tail _ (.tail _ (.head _))))
  rcases List.mem_cons.mp hq with rfl | hq
  · exact N _ (.tail _ (.head _))
  · exact N _ (.tail _ (.tail _ (.tail _ (.tail _ hq))))
noncomputable def frq (p : Int) (x y : Nat) : Bool := decide ((if ((rk x : Nat) : Int) - (rk y : Nat) < 0 then -(((rk x : Nat) : Int) - (rk y : Nat)) else ((rk x : Nat) : Int) - (rk y : Nat)) ≥ 3 + p)
noncomputable def frow (p : Int) (l : List Nat) (x : Nat) : List (List Nat) := (l.filter (frq p x)).map (fun y => [x, y])
noncomputable def freeL (p : Int) (l pre : List Nat) : List (List Nat) := pre.flatMap (frow p l)
noncomputable def RJ1 (OWN : List (Addr × Obj)) (p : Int) (l : List Nat) (i : Nat) (_ : Str → Option Value) (ys : List Value) (own : List (Addr × Obj)) : Prop :=
  own = OWN ∧ i ≤ 3 ∧ ys.length ≤ 3 * i ∧ StrsAre ys ((freeL p l (l.take i)).map sx)
noncomputable def RJ2 (OWN : List (Addr × Obj)) (p : Int) (l pre : List Nat) (x : Nat) (u : Tok) (k0 : Nat) (j : Nat) (mC : Str → Option Value) (ys : List Value) (own : List (Addr × Obj)) : Prop :=
  own = OWN ∧ j ≤ 3 ∧ ys.length ≤ k0 + j ∧ mC (Str.ofString "a") = some (.str (sx [x]) u) ∧ StrsAre ys ((freeL p l pre ++ ((l.take j).filter (frq p x)).map (fun y => [x, y])).map sx)
theorem seg2 {prog : Program} {w : World} {mean mg mb} {A : Around} {s : Shared} {Q : Value → Shared → Prop} {fd : FuncData} {body : List Stmt} {a b c : Nat} {ws : List Nat} {p : Int} {tl tp tw tr : Tok} {oF oS oR oG oK oC : Obj} {s₁ : Shared} {m : Str → Option Value}
   (hf : (Mine.hd.heap_39 w.params).lookup 83 = some { cls := .type "function", data := .func fd }) (hb : fd.body = .stmts body)
   (hd : A.depth < 500) (hh : A.handled = none) (T : TK w mean mg mb s.heap) (hcs : ∀ x ∈ [a, b, c], x ∈ cs8) (hp0 : 0 ≤ p) (hp3 : p < 3)
   (h1 : oF.data = .cell none) (h2 : oS.data = .cell none) (h3 : oR.data = .cell (some (.str (sx cs8) tr))) (h4 : oG.data = .cell (some (.int (3 + p) tp))) (h5 : oK.data = .cell (some (.str (sx [a, b, c]) tl))) (hmw : m (Str.ofString "word") = some (.str (sx ws) tw))
   (F : Fr s.heap s.heap.objs.size s₁.heap m)
   (N : News s.heap s.heap.objs.size s₁.heap [(s.heap.objs.size + 1 + 1 + 1 + 1 + 1 + 1, oF), (s.heap.objs.size + 1 + 1 + 1 + 1 + 1, oS), (s.heap.objs.size + 1 + 1 + 1 + 1, oR), (s.heap.objs.size + 1 + 1 + 1, oG), (s.heap.objs.size + 1 + 1, oK), (s.heap.objs.size + 1, oC)])
   (R : Rs s.gens s.os s₁.gens s₁.os)
   (next : ∀ fd body, (Mine.hd.heap_39 w.params).lookup 83 = some { cls := .type "function", data := .func fd } → fd.body = .stmts body → ∀ (D : Addr) (ys : List Value) (s₂ : Shared) (m : Str → Option Value),
      StrsAre ys ((freeL p [a, b, c] [a, b, c]).map sx) → m (Str.ofString "word") = some (.str (sx ws) tw) → m (Str.ofString "free") = some (.ref D) →
      Fr s.heap s.heap.objs.size s₂.heap m →
      News s.heap s.heap.objs.size s₂.heap [(D, LCg.lst ys), (s.heap.objs.size + 1 + 1 + 1 + 1 + 1 + 1, oF), (s.heap.objs.size + 1 + 1 + 1 + 1 + 1, oS), (s.heap.objs.size + 1 + 1 + 1 + 1, oR), (s.heap.objs.size + 1 + 1 + 1, oG), (s.heap.objs.size + 1 + 1, oK), (s.heap.objs.size + 1, oC)] →
      Rs s.gens s.os s₂.gens s₂.os → (@Ne Nat D (s.heap.objs.size + 1)) ∧ (@Ne Nat D (s.heap.objs.size + 1 + 1)) ∧ (@Ne Nat D (s.heap.objs.size + 1 + 1 + 1)) ∧ (@Ne Nat D (s.heap.objs.size + 1 + 1 + 1 + 1)) ∧ (@Ne Nat D (s.heap.objs.size + 1 + 1 + 1 + 1 + 1)) ∧ (@Ne Nat D (s.heap.objs.size + 1 + 1 + 1 + 1 + 1 + 1)) →
      wpAny (model prog w) (A.deeper (envOfC fd.name fd.scope s.heap.objs.size 83 fd.code)) (execs (body.drop 6) (envOfC fd.name fd.scope s.heap.objs.size 83 fd.code)) (fun f s' => Q (match f with | .ret v => v | _ => .none) s') (fun _ _ => False) s₂) :
   wpAny (model prog w) (A.deeper (envOfC fd.name fd.scope s.heap.objs.size 83 fd.code)) (execs (body.drop 5) (envOfC fd.name fd.scope s.heap.objs.size 83 fd.code)) (fun f s' => Q (match f with | .ret v => v | _ => .none) s') (fun _ _ => False) s₁ := by
  have e2 : List.lookup 83 (Mine.hd.heap_39 w.params) = some _ := rfl
  rw [e2] at hf
  cases hf
  cases hb
  have TT := T.t
  have KX := T.k
  rw [norm1 hmw] at F
  simp only [List.drop_succ_cons, List.drop_zero]
  w_on
  w_top on
  walk1
  refine lc_assign (cl := [(Str.ofString "ranks", s.heap.objs.size + 1 + 1 + 1 + 1), (Str.ofString "kinds", s.heap.objs.size + 1 + 1), (Str.ofString "gap", s.heap.objs.size + 1 + 1 + 1)]) ?hsw ?hclos ?hkind ?hnames ?hgo ?hs
  case hsw => with_unfolding_all rfl
  case hclos => rfl
  case hkind => rfl
  case hnames => decide
  case hs => intro _; rfl
  walk1
  obtain ⟨OWN, N', hOWN⟩ : ∃ OWN, News s.heap s.heap.objs.size _ OWN ∧ OWN = _ := ⟨_, N, rfl⟩
  have hsz : (sx [a, b, c]).cps.size = 3 := rfl
  have hasc : (sx [a, b, c]).cps.all (· < 128) = true := by
    simp only [sx, List.all_toArray, List.all_eq_true, decide_eq_true_eq]; exact fun c hc => (cs8_ok (hcs c hc)).2.2.2
  refine it_str (st := sx [a, b, c]) hasc F N' ?_
  intro I h₂ o hI F₂ N₂ hlt
  refine cgo_intro (s₀ := s) (L := s.heap.objs.size) (by decide) (by rfl) (It.str (A := A.deeper _) (st := sx [a, b, c]) (t := tl) hh) hI F₂ N₂ (fun p hp => Nat.ne_of_lt (hlt p hp)) (RJ1 OWN p [a, b, c] (sx [a, b, c]).cps.size) ?_ (fin_assign (by rfl) (by rfl) (by rfl) ?_)
  · intro C D oC7 s6 hC6 F8 N8 off6 ne6 hg6 ho6
    refine comp_more (by rfl) (by rfl) (by intro _; rfl) (It.str (A := A.deeper _) (st := sx [a, b, c]) (t := tl) hh) (RJ1 OWN p [a, b, c]) (TSN (Str.ofString "a")) ?_ ?_ hC6 ⟨rfl, by omega, by simp, .nil⟩ hI F8 N8 off6 ne6 (by rw [hg6, ho6]; exact R) ?_
    · exact asg_comp (OK := fun i o => IsSI o (sx [a, b, c]) tl i) (by rfl) (by rfl) (fun _ => rfl) ⟨ne6.1, ne6.2.2⟩
    · exact fun _ _ _ _ _ _ _ _ => trivial
    · rintro E6 i6 v6 s7 oI7 oC8 mC6 mC7 ys6 own6 hi6 ⟨x, u, rfl, hx⟩ ⟨rfl, hi7, hyl6, hys6⟩ hTS6 hO6 hC7 F9 N9 off9 R9
      refine wpAny_tests_nil ⟨rfl, ?_⟩
      have hx6 : mC7 (Str.ofString "a") = some (.str (sx [x]) u) := by rw [hTS6]; rfl
      subst hOWN
      walk1
      have hxm : [a, b, c][i6]? = some x := by simpa [sx] using hx
      have hi66 : i6 < 3 := hi6
      have hxc : x ∈ cs8 := hcs x (List.mem_of_getElem? hxm)
      have htk : [a, b, c].take (i6 + 1) = [a, b, c].take i6 ++ [x] := by rw [List.take_add_one, hxm]; rfl
      refine it_str (st := sx [a, b, c]) hasc F9 N9 ?_
      intro I2 h10 o2 hI2 F10 N10 hlt2
      have off9' := off9.mem
      have hI2a : @LT.lt Nat _ I I2 := hlt2 _ (.head _)
      have hI2b : @LT.lt Nat _ C I2 := hlt2 _ (.tail _ (.head _))
      have hI2c : @LT.lt Nat _ D I2 := hlt2 _ (.tail _ (.tail _ (.head _)))
      refine start_self (d := 1) (by rfl) (It.str (A := A.deeper _) (st := sx [a, b, c]) (t := tl) hh) hI2 (N10 _ (.head _)).1 ?_
      obtain ⟨OWN2, hOWN2, N11⟩ := perm_own N10
      have off11 : LCg.Off3 I2 C D OWN2 := by
        refine LCg.Off3.of fun q hq => ?_
        rw [hOWN2] at hq
        rcases List.mem_cons.mp hq with rfl | hq
        · exact ⟨Nat.ne_of_lt hI2a, ne6.1, ne6.2.1⟩
        · exact ⟨Nat.ne_of_lt (hlt2 _ (.tail _ (.tail _ (.tail _ hq)))), (off9' q hq).2⟩
      refine codeAny_mono (comp_loop (by rfl) (by rfl) (It.str (A := A.deeper _) (st := sx [a, b, c]) (t := tl) hh) (RJ2 OWN2 p [a, b, c] ([a, b, c].take i6) x u (3 * i6)) (TSN (Str.ofString "b")) ?_ ?_ ?_ hC7 ⟨rfl, by omega, by omega, hx6, by simpa using hys6⟩ hI2 F10 N11 off11 ⟨Nat.ne_of_gt hI2b, Nat.ne_of_gt hI2c, ne6.2.2⟩ R9 ?_) ?_
      · exact asg_comp (OK := fun i o => IsSI o (sx [a, b, c]) tl i) (by rfl) (by rfl) (fun _ => rfl) ⟨Nat.ne_of_gt hI2b, ne6.2.2⟩
      · exact fun _ _ _ _ _ _ _ _ => trivial
      · rintro i mC ys own ⟨_, hi, hyl, _⟩
        omega
      · rintro E7 i7 v7 s8 oI8 oC9 mC8 mC9 ys7 own7 hi77 ⟨y, u2, rfl, hy⟩ ⟨rfl, hi8, hyl7, hmA, hys7⟩ hTS7 hO7 hC9 F12 N12 off12 R12
        have hym : [a, b, c][i7]? = some y := by simpa [sx] using hy
        have hi78 : i7 < 3 := hi77
        have hyc : y ∈ cs8 := hcs y (List.mem_of_getElem? hym)
        have htk2 : [a, b, c].take (i7 + 1) = [a, b, c].take i7 ++ [y] := by rw [List.take_add_one, hym]; rfl
        subst hOWN2
        have hxa : mC9 (Str.ofString "a") = some (.str (sx [x]) u) := by rw [hTS7]; exact hmA
        have hxb : mC9 (Str.ofString "b") = some (.str (sx [y]) u2) := by rw [hTS7]; rfl
        refine wpAny_tests_one ?_
        repeat ((fail_if_success (with_reducible show wpAny _ _ (call (Value.builtin "str.find") _) _ _ _)); walk1)
        refine r_rank hxc fun t20 k20 => ?_
        repeat ((fail_if_success (with_reducible show wpAny _ _ (call (Value.builtin "str.find") _) _ _ _)); walk1)
        refine r_rank hyc fun t21 k21 => ?_
        repeat ((fail_if_success (with_reducible show wpAny _ _ (truthy _) _ _ _)); walk1)
        refine truthy_as (b' := frq p x y) rfl ?_
        have hfl : (([a, b, c].take i7 ++ [y]).filter (frq p x)).map (fun y => [x, y]) = (([a, b, c].take i7).filter (frq p x)).map (fun y => [x, y]) ++ (if frq p x y = true then [[x, y]] else []) := by
          rw [List.filter_append, List.map_append]
          congr 1
          cases hfr : frq p x y <;> simp [hfr]
        rw [← htk2] at hfl
        cases hfr : frq p x y with
        | false =>
          rw [hfr] at hfl
          show CEnd _ _ _ _ _ _ _ _ _ _
          refine ⟨_, _, _, hC9, ⟨rfl, hi78, by omega, hxa, ?_⟩, F12, N12, off12, R12⟩
          rw [hfl]
          simpa using hys7
        | true =>
          rw [hfr] at hfl
          show wpAny _ _ (eval _ _) _ _ _
          repeat walk1
          refine ⟨_, _, _, hC9, ⟨rfl, hi78, by simp; omega, hxa, ?_⟩, F12, N12, off12, R12⟩
          rw [hfl, if_pos rfl, ← List.append_assoc, List.map_append]
          exact hys7.append' (.cons _ _ .nil)
      · rintro r s8 ⟨rfl, oC9, mC9, ys7, own7, hC9, ⟨rfl, _, hyl7, _, hys7⟩, F12, N12, off12, R12⟩
        subst hOWN2
        refine ⟨rfl, oC9, mC9, ys7, _, hC9, ⟨_, rfl, off9, rfl, by omega, by omega, ?_⟩, F12, N12, off12, R12⟩
        rw [htk]
        unfold freeL
        rw [List.flatMap_append]
        have e9 : [a, b, c].take (sx [a, b, c]).cps.size = [a, b, c] := rfl
        rw [e9] at hys7
        have e10 : [x].flatMap (frow p [a, b, c]) = frow p [a, b, c] x := by simp
        rw [e10]
        exact hys7
  · subst hOWN
    rintro D mC ys own s₁ ⟨rfl, hi, hyl, hys⟩ F N off R
    have hne : ∀ q : Addr × Obj, q ∈ _ → @Ne Nat D q.1 := fun q hq => Ne.symm (off q hq)
    exact next _ _ rfl rfl D ys s₁ _ hys (by rfl) (by rfl) F N R ⟨hne (_, oC) (.tail _ (.tail _ (.tail _ (.tail _ (.tail _ (.head _)))))), hne (_, oK) (.tail _ (.tail _ (.tail _ (.tail _ (.head _))))), hne (_, oG) (.tail _ (.tail _ (.tail _ (.head _)))), hne (_, oR) (.tail _ (.tail _ (.head _))), hne (_, oS) (.tail _ (.head _)), hne (_, oF) (.head _)⟩

/-- signs with dots between -/
noncomputable def jd : List Nat → List Nat
  | [] => []
  | c :: r => c :: r.flatMap (fun d => [46, 46, 46, d])
theorem pat_jd (fs : List Nat) : [46, 46, 46] ++ jd fs ++ [46, 46, 46] = pat fs := by
  cases fs with
  | nil => rfl
  | cons c r => simp [jd, pat]
theorem join_jd (fs : List Nat) : Txt.join (sx [46, 46, 46]) (PyProof.Rows.signs (sx fs)) = sx (jd fs) := by
  refine (eq_of_beq (join_plain_closes _ _)).trans ?_
  have e : PyProof.Rows.signs (sx fs) = fs.map (fun c => sx [c]) := by simp [PyProof.Rows.signs, sx]
  rw [e]
  have key : ∀ (c : Nat) (r : List Nat), Str.join (sx [46, 46, 46]) ((c :: r).map (fun c => sx [c])) = sx (jd (c :: r)) := by
    intro c r
    induction r generalizing c with
    | nil => rfl
    | cons d r ih =>
      show sx [c] ++ sx [46, 46, 46] ++ Str.join (sx [46, 46, 46]) ((d :: r).map (fun c => sx [c])) = _
      rw [ih d, sx_app, sx_app]
      simp [jd]
  cases fs with
  | nil => rfl
  | cons c r => exact key c r
theorem r_joinDots {prog : Program} {w : World} {A : Around} {E : Value → Shared → Prop} {s : Shared} {fs : List Nat} {t u : Tok} {Q : Value → Shared → Prop} {h₀ : Heap} {L : Addr} {m : Str → Option Value} {news : List (Addr × Obj)} (hh : A.handled = none) (F : Fr h₀ L s.heap m) (N : News h₀ L s.heap news) (hl : fs.length ≤ 100)
    (h : ∀ h' k t', Fr h₀ L h' m → News h₀ L h' news → Q (.str (sx (jd fs)) t') { s with heap := h', toks := k }) :
    wpAny (model prog w) A (call (.builtin "str.join") [.str (sx [46, 46, 46]) t, .str (sx fs) u]) Q E s := by
  refine PyProof.Rows.join_strF hh F N (joinOk_signsN (N := 100) (S := 3) (by rw [sx_len]; exact hl) (by rw [sx_len]; exact Nat.le_refl _) (by decide)) ?_
  rw [join_jd]
  intros
  apply h <;> assumption
noncomputable def dep (p : Int) (x y : Nat) : Bool := decide (256 + (if (14 + ((rk x : Nat) : Int)) - (14 + ((rk y : Nat) : Int)) < 0 then -((14 + ((rk x : Nat) : Int)) - (14 + ((rk y : Nat) : Int))) else (14 + ((rk x : Nat) : Int)) - (14 + ((rk y : Nat) : Int))) - (3 + p) < 256)
noncomputable def pairsL (a b c : Nat) : List (Nat × Nat) := [(a, b), (b, c), (a, c), (b, b)]
noncomputable def psOf (p : Int) (ws : List Nat) (prs : List (Nat × Nat)) : List (Nat × Nat × List Nat) := (prs.filter (fun q => dep p q.1 q.2)).map (fun q => (q.1, q.2, ws.filter (fun c => decide (c ∈ [q.1, q.2]))))
noncomputable def SJ3 (Sh TT Df : Addr) (oT oD oF oS oR oG oK oC : Obj) (c1 : Nat) (tw : Tok) (p : Int) (ws : List Nat) (prs : List (Nat × Nat)) (i : Nat) (m : Str → Option Value) (own : List (Addr × Obj)) : Prop :=
  ∃ (its : List Value) (nn : Nat) (tups : List (Addr × Obj)), own = (TT, oT) :: (Sh, listOf its.toArray nn) :: (Df, oD) :: (c1 + 1 + 1 + 1 + 1 + 1, oF) :: (c1 + 1 + 1 + 1 + 1, oS) :: (c1 + 1 + 1 + 1, oR) :: (c1 + 1 + 1, oG) :: (c1 + 1, oK) :: (c1, oC) :: tups ∧
    m (Str.ofString "word") = some (.str (sx ws) tw) ∧ m (Str.ofString "free") = some (.ref Df) ∧ (∀ q ∈ tups, @LT.lt Nat _ Sh q.1) ∧ i ≤ 4 ∧ its.length ≤ i ∧ its.length = (psOf p ws (prs.take i)).length ∧
    ∀ (j : Nat) p', (psOf p ws (prs.take i))[j]? = some p' → ∃ T t1 t2 o n, its[j]? = some (.ref T) ∧ (T, o) ∈ tups ∧ o.cls = .type "tuple" ∧ o.data = .seq #[.str (sx [p'.1, p'.2.1]) t1, .str (sx (pat p'.2.2)) t2] n
theorem name_tup {h₀ h : Heap} {L T : Addr} {items : Array Value} {n : Nat} {d : Option Addr} {sl : Array (Option Value)} {rest : List (Addr × Obj)} (N : News h₀ L h ((T, { cls := .type "tuple", dict := d, data := .seq items n, slots := sl }) :: rest)) :
    ∃ oT n, oT.cls = .type "tuple" ∧ oT.data = .seq items n ∧ News h₀ L h ((T, oT) :: rest) := ⟨_, _, rfl, rfl, N⟩
theorem seg3 {prog : Program} {w : World} {mean mg mb} {A : Around} {s : Shared} {Q : Value → Shared → Prop} {fd : FuncData} {body : List Stmt} {a b c : Nat} {ws : List Nat} {p : Int} {tl tp tw : Tok} {oF oS oR oG oK oC : Obj} {s₁ : Shared} {m : Str → Option Value} {D : Addr} {ys : List Value} {vR : Option Value}
   (hf : (Mine.hd.heap_39 w.params).lookup 83 = some { cls := .type "function", data := .func fd }) (hb : fd.body = .stmts body)
   (hd : A.depth < 500) (hh : A.handled = none) (T : TK w mean mg mb s.heap) (hcs : ∀ x ∈ [a, b, c], x ∈ cs8) (hws : ∀ x ∈ ws, x ∈ [a, b, c]) (hwl : ws.length = 4)
   (h1 : oF.data = .cell none) (h2 : oS.data = .cell none) (h3 : oR.data = .cell vR) (h4 : oG.data = .cell (some (.int (3 + p) tp))) (h5 : oK.data = .cell (some (.str (sx [a, b, c]) tl))) (hmw : m (Str.ofString "word") = some (.str (sx ws) tw)) (hmf : m (Str.ofString "free") = some (.ref D))
   (F : Fr s.heap s.heap.objs.size s₁.heap m)
   (N : News s.heap s.heap.objs.size s₁.heap [(D, LCg.lst ys), (s.heap.objs.size + 1 + 1 + 1 + 1 + 1 + 1, oF), (s.heap.objs.size + 1 + 1 + 1 + 1 + 1, oS), (s.heap.objs.size + 1 + 1 + 1 + 1, oR), (s.heap.objs.size + 1 + 1 + 1, oG), (s.heap.objs.size + 1 + 1, oK), (s.heap.objs.size + 1, oC)])
   (R : Rs s.gens s.os s₁.gens s₁.os) (hDo : (@Ne Nat D (s.heap.objs.size + 1)) ∧ (@Ne Nat D (s.heap.objs.size + 1 + 1)) ∧ (@Ne Nat D (s.heap.objs.size + 1 + 1 + 1)) ∧ (@Ne Nat D (s.heap.objs.size + 1 + 1 + 1 + 1)) ∧ (@Ne Nat D (s.heap.objs.size + 1 + 1 + 1 + 1 + 1)) ∧ (@Ne Nat D (s.heap.objs.size + 1 + 1 + 1 + 1 + 1 + 1)))
   (next : ∀ fd body, (Mine.hd.heap_39 w.params).lookup 83 = some { cls := .type "function", data := .func fd } → fd.body = .stmts body → ∀ (Sh : Addr) (its : List Value) (nn : Nat) (tups : List (Addr × Obj)) (oS2 : Obj) (s₂ : Shared) (m : Str → Option Value),
      oS2.data = .cell (some (.ref Sh)) → m (Str.ofString "word") = some (.str (sx ws) tw) → m (Str.ofString "free") = some (.ref D) → (∀ q ∈ tups, @LT.lt Nat _ Sh q.1) → @LT.lt Nat _ (s.heap.objs.size + 1 + 1 + 1 + 1 + 1 + 1) Sh → its.length = (psOf p ws (pairsL a b c)).length →
      (∀ (j : Nat) p', (psOf p ws (pairsL a b c))[j]? = some p' → ∃ T t1 t2 o n, its[j]? = some (.ref T) ∧ (T, o) ∈ tups ∧ o.cls = .type "tuple" ∧ o.data = .seq #[.str (sx [p'.1, p'.2.1]) t1, .str (sx (pat p'.2.2)) t2] n) →
      Fr s.heap s.heap.objs.size s₂.heap m →
      News s.heap s.heap.objs.size s₂.heap ((Sh, listOf its.toArray nn) :: (D, LCg.lst ys) :: (s.heap.objs.size + 1 + 1 + 1 + 1 + 1 + 1, oF) :: (s.heap.objs.size + 1 + 1 + 1 + 1 + 1, oS2) :: (s.heap.objs.size + 1 + 1 + 1 + 1, oR) :: (s.heap.objs.size + 1 + 1 + 1, oG) :: (s.heap.objs.size + 1 + 1, oK) :: (s.heap.objs.size + 1, oC) :: tups) →
      Rs s.gens s.os s₂.gens s₂.os →
      wpAny (model prog w) (A.deeper (envOfC fd.name fd.scope s.heap.objs.size 83 fd.code)) (execs (body.drop 8) (envOfC fd.name fd.scope s.heap.objs.size 83 fd.code)) (fun f s' => Q (match f with | .ret v => v | _ => .none) s') (fun _ _ => False) s₂) :
   wpAny (model prog w) (A.deeper (envOfC fd.name fd.scope s.heap.objs.size 83 fd.code)) (execs (body.drop 6) (envOfC fd.name fd.scope s.heap.objs.size 83 fd.code)) (fun f s' => Q (match f with | .ret v => v | _ => .none) s') (fun _ _ => False) s₁ := by
  have e2 : List.lookup 83 (Mine.hd.heap_39 w.params) = some _ := rfl
  rw [e2] at hf
  cases hf
  cases hb
  obtain ⟨hD1, hD2, hD3, hD4, hD5, hD6⟩ := hDo
  have TT := T.t
  have KX := T.k
  rw [norm2 hmw hmf] at F
  simp only [List.drop_succ_cons, List.drop_zero]
  w_on
  w_top on
  repeat ((fail_if_success (with_reducible show wpAny _ _ (exec (Stmt.For _ _ _ _ _) _) _ _ _)); walk1)
  refine wpAny_For ?_ (by intro _; rfl)
  have hl3 : [a, b, c].length = 3 := rfl
  repeat ((fail_if_success (with_reducible show wpAny _ _ (binaryOp Operator.Mult _ _) _ _ _)); walk1)
  refine r_two fun t20 k20 => ?_
  repeat ((fail_if_success (with_reducible show wpAny _ _ (pyIter _) _ _ _)); walk1)
  rename_i Sh _ lSh _ oS2 dS2 _ t5 k5 _ t4 k4 t3 k3 t2 k2 t1 k1 t0 k0 T4 _ F4 N4 lT4
  have w1 : sx (List.take (Int.toNat 2) [a, b, c]) = sx [a, b] := rfl
  have w2 : sx (List.drop (Int.toNat 1) [a, b, c]) = sx [b, c] := rfl
  have w3 : sx ([[a, b, c].getD (Int.toNat 0) 0] ++ [[a, b, c].getD (Int.toNat 2) 0]) = sx [a, c] := rfl
  have w4 : sx [[a, b, c].getD (Int.toNat 1) 0, [a, b, c].getD (Int.toNat 1) 0] = sx [b, b] := rfl
  rw [w1, w2, w3, w4] at N4
  have hq := name_tup N4
  clear N4
  refine Exists.elim hq fun oT hq => ?_
  refine Exists.elim hq fun nT hq => ?_
  have cT := hq.1
  have dT := hq.2.1
  have N5 := hq.2.2
  clear hq
  have hT4 : Heap.IsTuple _ T4 _ := ⟨oT, (N5 _ (.head _)).1, cT, nT, dT⟩
  refine it_tup hT4 F4 N5 ?_
  intro I h₂ o hI F₂ N₂ hlt
  refine for_it (s₀ := s) (L := s.heap.objs.size) (It.tup (A := A.deeper _) (l := T4) (items := #[.str (sx [a, b]) t5, .str (sx [b, c]) t4, .str (sx [a, c]) t1, .str (sx [b, b]) t20]) hh) (SJ3 Sh T4 D oT (LCg.lst ys) oF oS2 oR oG oK oC (s.heap.objs.size + 1) tw p ws (pairsL a b c)) (TSM (Str.ofString "pair"))
    ?asg ?X ?J0 hI F₂ N₂ ?off R ?turn ?done
  case asg =>
    refine asg_it_name (OK := fun i o => IsTI o T4 i) ?_ ?_ ?_ ?_
    · rfl
    · rfl
    · rfl
    · intro _; rfl
  case off => exact fun p hp => Nat.ne_of_lt (hlt p hp)
  case X =>
    rintro i m₁ own₁ h' ⟨its, nn, tups, rfl, _⟩ _ N'
    exact ⟨oT, (N' _ (.head _)).1, cT, nT, dT⟩
  case J0 => exact ⟨[], 0, [], rfl, rfl, rfl, by simp, by decide, by decide, rfl, by simp [psOf]⟩
  case turn =>
    rintro E' i v s₂ m₁ m₂ own₁ o2 hi hv ⟨its, nn, tups, rfl, hm1, hm2, hgt, hi4, hil, hlen, hits⟩ hTSM hO F N R off
    have hi44 : i < 4 := hi
    obtain ⟨⟨x, y⟩, tq, hq, hv'⟩ : ∃ q : Nat × Nat, ∃ tq, (pairsL a b c)[i]? = some q ∧ v = .str (sx [q.1, q.2]) tq := by
      clear hits hlen hil hi4 N F off
      have hcase : i = 0 ∨ i = 1 ∨ i = 2 ∨ i = 3 := by omega
      rcases hcase with rfl | rfl | rfl | rfl
      · cases hv; exact ⟨(a, b), t5, rfl, rfl⟩
      · cases hv; exact ⟨(b, c), t4, rfl, rfl⟩
      · cases hv; exact ⟨(a, c), t1, rfl, rfl⟩
      · cases hv; exact ⟨(b, b), t20, rfl, rfl⟩
    have hxy : x ∈ cs8 ∧ y ∈ cs8 := by
      have hm := List.mem_of_getElem? hq
      simp only [pairsL, List.mem_cons, List.not_mem_nil, or_false, Prod.mk.injEq] at hm
      rcases hm with ⟨rfl, rfl⟩ | ⟨rfl, rfl⟩ | ⟨rfl, rfl⟩ | ⟨rfl, rfl⟩ <;> exact ⟨hcs _ (by simp), hcs _ (by simp)⟩
    have htk : (pairsL a b c).take (i + 1) = (pairsL a b c).take i ++ [(x, y)] := by rw [List.take_add_one, hq]; rfl
    have hps : psOf p ws ((pairsL a b c).take (i + 1)) = psOf p ws ((pairsL a b c).take i) ++ (if dep p x y = true then [(x, y, ws.filter (fun c => decide (c ∈ [x, y])))] else []) := by
      rw [htk]; unfold psOf
      rw [List.filter_append, List.map_append]
      congr 1
      cases hdp : dep p x y <;> simp [hdp]
    dsimp only at hv'
    subst hv'
    have hl2 : [x, y].length = 2 := rfl
    have e9 : m₂ = _ := hTSM
    subst e9
    rw [norm2 hm1 hm2] at F
    refine gen_Q fun Q0 hQ0 => ?_
    repeat ((fail_if_success (with_reducible show wpAny _ _ (subscriptTail _ _ (Value.ref _) _) _ _ _)); walk1)
    refine r_exact (c := x) (by assumption) T hxy.1 fun t21 => ?_
    repeat ((fail_if_success (with_reducible show wpAny _ _ (subscriptTail _ _ (Value.ref _) _) _ _ _)); walk1)
    refine r_exact (c := y) (by assumption) T hxy.2 fun t22 => ?_
    repeat ((fail_if_success (with_reducible show wpAny _ _ (call (Value.ref 45) _) _ _ _)); walk1)
    rename Fr _ _ _ _ => F5
    rename News _ _ _ _ => N5
    refine term_call (by show A.depth + 1 < 860; omega) (T.keeps F5.keep) ?_
    intro s6 K6
    have F6 := fr_kp F5 K6
    have N6 := news_kp N5 K6
    have R6 := R.trans K6.rest
    clear F5 N5
    refine truthy_as (b' := dep p x y) rfl ?_
    cases hdp : dep p x y with
    | false =>
      rw [hdp] at hps
      rw [if_neg (by decide), List.append_nil] at hps
      repeat walk1
      subst hQ0
      refine ⟨_, _, ⟨its, nn, tups, rfl, rfl, rfl, hgt, hi44, by omega, by rw [hps]; exact hlen, fun j p' hj => ?_⟩, F6, N6, R6, off⟩
      rw [hps] at hj
      exact hits j p' hj
    | true =>
      rw [hdp] at hps
      repeat ((fail_if_success (with_reducible show wpAny _ _ (call (Value.ref 71) _) _ _ _)); walk1)
      rw [if_pos rfl] at hps
      refine seen_call (by show A.depth + 1 < 880; omega) hh (T.keeps F6.keep) hxy.1 hxy.2 (fun c hc => hcs c (hws c hc)) (by omega) ?_
      intro t30 s7 K7
      have K8 : Kp s6 s7 := ⟨K7.heap, K7.rest⟩
      have F7 := fr_kp F6 K8
      have N7 := news_kp N6 K8
      have R7 := R6.trans K7.rest
      clear F6 N6
      have hfl : (ws.filter (fun c => decide (c ∈ [x, y]))).length ≤ 4 := Nat.le_trans (List.length_filter_le _ _) (by omega)
      generalize hfs : ws.filter (fun c => decide (c ∈ [x, y])) = fs at *
      repeat ((fail_if_success (with_reducible show wpAny _ _ (call (Value.builtin "str.join") _) _ _ _)); walk1)
      refine r_joinDots hh F7 N7 (by omega) fun h8 k8 t8 F8 N8 => ?_
      clear F7 N7
      have hjl : (jd fs).length ≤ 100 := by
        have := pat_len fs hfl
        rw [← pat_jd] at this
        simp at this; omega
      repeat ((fail_if_success (with_reducible show wpAny _ _ (call (Value.builtin "list.append") _) _ _ _)); walk1)
      rename_i t31 k31 t32 k32 T9 h9 F9 N9 l9
      have l9' : @LT.lt Nat _ Sh T9 := l9.2.2.1
      rw [pat_jd fs] at N9
      have hIs : @Ne Nat I Sh := Ne.symm (off _ (.tail _ (.head _)))
      have hTs : @LT.lt Nat _ Sh T4 := lT4.1
      have hITn : ∀ q ∈ tups, @Ne Nat q.1 Sh := fun q hq => Nat.ne_of_gt (hgt q hq)
      refine append_K F9 N9 (.tail (Nat.ne_of_gt l9') (.tail hIs (.tail (Nat.ne_of_gt hTs) (.head ?_)))) ?_ (by rw [sizeLine_eq]; simp; omega)
      · intro q hq
        simp only [List.mem_cons] at hq
        rcases hq with rfl | rfl | rfl | rfl | rfl | rfl | rfl | hq
        · exact Nat.ne_of_lt lSh.1
        · exact Nat.ne_of_lt lSh.2.1
        · exact Nat.ne_of_lt lSh.2.2.1
        · exact Nat.ne_of_lt lSh.2.2.2.1
        · exact Nat.ne_of_lt lSh.2.2.2.2.1
        · exact Nat.ne_of_lt lSh.2.2.2.2.2.1
        · exact Nat.ne_of_lt lSh.2.2.2.2.2.2
        · exact hITn q hq
      intro h10 F10 N10
      simp only [List.push_toArray] at N10
      repeat walk1
      have hq9 := name_tup N10
      clear N10
      refine Exists.elim hq9 fun o9 hq9 => ?_
      refine Exists.elim hq9 fun n9 hq9 => ?_
      have c9 := hq9.1
      have d9 := hq9.2.1
      have N11 := hq9.2.2
      clear hq9
      subst hQ0
      refine ⟨_, _, ⟨its ++ [.ref T9], nn + 1, (T9, o9) :: tups, rfl, rfl, rfl, ?_, hi44, by simp; omega, by rw [hps]; simp [hlen], fun j p' hj => ?_⟩, F10, ?_, R7, ?_⟩
      · intro q hq
        rcases List.mem_cons.mp hq with rfl | hq
        · exact l9'
        · exact hgt q hq
      · rw [hps] at hj
        rcases Nat.lt_or_ge j its.length with hj2 | hj2
        · rw [List.getElem?_append_left (by rw [← hlen]; exact hj2)] at hj
          obtain ⟨T, a1, a2, o, n, g1, g2, g3, g4⟩ := hits j p' hj
          exact ⟨T, a1, a2, o, n, by rw [List.getElem?_append_left hj2]; exact g1, .tail _ g2, g3, g4⟩
        · rw [List.getElem?_append_right (by rw [← hlen]; exact hj2), ← hlen] at hj
          have hj0 : j - its.length = 0 := by
            rcases h0 : j - its.length with _ | k
            · rfl
            · rw [h0] at hj; simp at hj
          rw [hj0] at hj
          cases hj
          exact ⟨T9, _, _, o9, n9, by rw [List.getElem?_append_right hj2, hj0]; rfl, .head _, c9, d9⟩
      · intro q hq
        refine N11 q ?_
        simp only [List.mem_cons] at hq ⊢
        rcases hq with h | h | h | h | h | h | h | h | h | h | h | h <;> simp [h]
      · intro q hq
        simp only [List.mem_cons] at hq
        have off' := off
        rcases hq with rfl | rfl | rfl | rfl | rfl | rfl | rfl | rfl | rfl | rfl | hq
        · exact off _ (.head _)
        · exact (show Sh ≠ I from off (Sh, listOf its.toArray nn) (.tail _ (.head _)))
        · exact off _ (.tail _ (.tail _ (.head _)))
        · exact off _ (.tail _ (.tail _ (.tail _ (.head _))))
        · exact off _ (.tail _ (.tail _ (.tail _ (.tail _ (.head _)))))
        · exact off _ (.tail _ (.tail _ (.tail _ (.tail _ (.tail _ (.head _))))))
        · exact off _ (.tail _ (.tail _ (.tail _ (.tail _ (.tail _ (.tail _ (.head _)))))))
        · exact off _ (.tail _ (.tail _ (.tail _ (.tail _ (.tail _ (.tail _ (.tail _ (.head _))))))))
        · exact off _ (.tail _ (.tail _ (.tail _ (.tail _ (.tail _ (.tail _ (.tail _ (.tail _ (.head _)))))))))
        · exact Nat.ne_of_gt l9.1
        · exact off q (.tail _ (.tail _ (.tail _ (.tail _ (.tail _ (.tail _ (.tail _ (.tail _ (.tail _ hq)))))))))
  case done =>
    rintro s₂ m₁ own₁ ⟨its, nn, tups, rfl, hm1, hm2, hgt, hi4, hil, hlen, hits⟩ F N R
    exact next _ _ rfl rfl Sh its nn tups oS2 s₂ m₁ dS2 hm1 hm2 hgt lSh.2.1 hlen hits F (fun q hq => N q (.tail _ hq)) R

theorem kb_canLayAll0 : ∀ ns : List Bool, PyData.canLayAll0 (ns.map PyData.bool) = true
  | [] => rfl
  | _ :: r => by simp [PyData.canLayAll0, PyData.canLay0, kb_canLayAll0 r]
theorem kb_depthAll : ∀ ns : List Bool, PyData.depthAll (ns.map PyData.bool) = 0
  | [] => rfl
  | _ :: r => by simp [PyData.depthAll, PyData.depth, kb_depthAll r]
theorem kb_shaped (ns : List Bool) : SeqAt.shaped (.list (ns.map PyData.bool)) = true := by
  simp [SeqAt.shaped, PyData.canLay0, PyData.depth, kb_canLayAll0, kb_depthAll]
theorem kb_sameAll : ∀ ns : List Bool, PySem.Spec.sameAll (ns.map PyData.bool) (ns.map PyData.bool) = true
  | [] => by simp [PySem.Spec.sameAll]
  | a :: r => by simp [PySem.Spec.sameAll, PySem.Spec.same, kb_sameAll r]
theorem kb_carried : ∀ ns : List Bool, CarriedAll (ns.map Value.bool) (ns.map PyData.bool)
  | [] => .nil
  | b :: r => .cons (.bool b) (kb_carried r)
theorem r_eqBools {prog : Program} {w : World} {A : Around} {E : Value → Shared → Prop} {s : Shared} {a b : Addr} {bs : List Bool} {Q : Value → Shared → Prop} (ha : s.heap.IsList a (bs.map Value.bool).toArray) (hb : s.heap.IsList b (bs.map Value.bool).toArray) (hu : A.units + 64 < cLine) (h : Q (.bool true) s) :
    wpAny (model prog w) A (compareOp .Eq (.ref a) (.ref b)) Q E s :=
  eq_dataH_same (reads_newData ha (kb_carried bs)) (reads_newData hb (kb_carried bs)) (kb_shaped _) (kb_shaped _) hu (SeqAt.noMix_of_shape (.list .bool) rfl _ _ (list_map_has fun _ => rfl) (list_map_has fun _ => rfl)) (by
    have e : PySem.Spec.same (.list (bs.map PyData.bool)) (.list (bs.map PyData.bool)) = true := by simp only [PySem.Spec.same]; exact kb_sameAll bs
    rw [e]; exact h)
theorem news_new {s s' : Shared} {h₀ : Heap} {L D : Addr} {m : Str → Option Value} {o : Obj} {news : List (Addr × Obj)} (F : Fr h₀ L s.heap m) (N : News h₀ L s.heap news) (K : Kp s s') (hn : s.heap.get? D = none) (hg : s'.heap.get? D = some o) :
    News h₀ L s'.heap ((D, o) :: news) ∧ ∀ p ∈ news, @Ne Nat p.1 D := by
  refine ⟨fun p hp => ?_, fun p hp e => ?_⟩
  · rcases List.mem_cons.mp hp with rfl | hp
    · refine ⟨hg, fun e => ?_, ?_⟩
      · obtain ⟨oL, _, _, hL, _⟩ := F.ns
        have e' : D = L := e
        rw [e', hL] at hn; cases hn
      · cases e : h₀.get? D with
        | none => rfl
        | some o' => rw [F.keep _ _ e] at hn; cases hn
    · exact ⟨K.heap _ _ (N p hp).1, (N p hp).2⟩
  · have h1 := (N p hp).1
    have e' : p.1 = D := e
    rw [e', hn] at h1; cases h1
noncomputable def BJ (OWN : List (Addr × Obj)) (f : List Nat → Bool) (words : List (List Nat)) (i : Nat) (_ : Str → Option Value) (ys : List Value) (own : List (Addr × Obj)) : Prop :=
  own = OWN ∧ i ≤ words.length ∧ ys = ((words.take i).map f).map Value.bool
theorem seg4 {prog : Program} {w : World} {mean mg mb} {A : Around} {s : Shared} {Q : Value → Shared → Prop} {fd : FuncData} {body : List Stmt} {a b c : Nat} {ws : List Nat} {p : Int} {tw : Tok} {oF oS oR oG oK oC : Obj} {s₁ : Shared} {m : Str → Option Value} {D Sh : Addr} {ys its : List Value} {nn : Nat} {tups : List (Addr × Obj)} {res : List (List Nat)}
   (hf : (Mine.hd.heap_39 w.params).lookup 83 = some { cls := .type "function", data := .func fd }) (hb : fd.body = .stmts body)
   (hd : A.depth < 500) (hh : A.handled = none) (hu : A.units + 100 < cLine) (T : TK w mean mg mb s.heap) (hcs : ∀ x ∈ [a, b, c], x ∈ cs8) (hws : ∀ x ∈ ws, x ∈ [a, b, c]) (hwl : ws.length = 4)
   (h1 : oF.data = .cell none) (h2 : oS.data = .cell (some (.ref Sh))) (hmw : m (Str.ofString "word") = some (.str (sx ws) tw)) (hmf : m (Str.ofString "free") = some (.ref D)) (hys : StrsAre ys ((freeL p [a, b, c] [a, b, c]).map sx))
   (hgt : ∀ q ∈ tups, @LT.lt Nat _ Sh q.1) (hSh : @LT.lt Nat _ (s.heap.objs.size + 1 + 1 + 1 + 1 + 1 + 1) Sh) (hlen : its.length = (psOf p ws (pairsL a b c)).length)
   (hits : ∀ (j : Nat) p', (psOf p ws (pairsL a b c))[j]? = some p' → ∃ T t1 t2 o n, its[j]? = some (.ref T) ∧ (T, o) ∈ tups ∧ o.cls = .type "tuple" ∧ o.data = .seq #[.str (sx [p'.1, p'.2.1]) t1, .str (sx (pat p'.2.2)) t2] n)
   (F : Fr s.heap s.heap.objs.size s₁.heap m)
   (N : News s.heap s.heap.objs.size s₁.heap ((Sh, listOf its.toArray nn) :: (D, LCg.lst ys) :: (s.heap.objs.size + 1 + 1 + 1 + 1 + 1 + 1, oF) :: (s.heap.objs.size + 1 + 1 + 1 + 1 + 1, oS) :: (s.heap.objs.size + 1 + 1 + 1 + 1, oR) :: (s.heap.objs.size + 1 + 1 + 1, oG) :: (s.heap.objs.size + 1 + 1, oK) :: (s.heap.objs.size + 1, oC) :: tups))
   (R : Rs s.gens s.os s₁.gens s₁.os)
   (hrun : chgRun (freeL p [a, b, c] [a, b, c]) 30 [ws] 0 = some res)
   (heq : (wordsF ws).map (fun one => (psOf p ws (pairsL a b c)).all (fit1 one)) = (wordsF ws).map (fun one => decide (one ∈ res)))
   (hwm : ∀ one ∈ wordsF ws, ∀ x ∈ one, x ∈ [a, b, c])
   (h : ∀ s', Kp s s' → Q (.bool true) s') :
   wpAny (model prog w) (A.deeper (envOfC fd.name fd.scope s.heap.objs.size 83 fd.code)) (execs (body.drop 8) (envOfC fd.name fd.scope s.heap.objs.size 83 fd.code)) (fun f s' => Q (match f with | .ret v => v | _ => .none) s') (fun _ _ => False) s₁ := by
  have e2 : List.lookup 83 (Mine.hd.heap_39 w.params) = some _ := rfl
  rw [e2] at hf
  cases hf
  cases hb
  have TT := T.t
  have KX := T.k
  rw [norm2 hmw hmf] at F
  simp only [List.drop_succ_cons, List.drop_zero]
  w_on
  w_top on
  repeat ((fail_if_success (with_reducible show wpAny _ _ (call (Value.ref 66) _) _ _ _)); walk1)
  refine changed_call (by show A.depth + 1 < 860; omega) hh (T.keeps F.keep) hwl (News.isList N (.tail _ (.head _))) hys hrun ?_
  intro Dr vr nr s2 hDr hDn hvr K2
  have K3 : Kp s₁ s2 := ⟨K2.heap, K2.rest⟩
  have F2 := fr_kp F K3
  have hN2 := news_new F N K3 hDn hDr
  have N2 := hN2.1
  have R2 := R.trans K3.rest
  have hneD := hN2.2
  clear hN2
  have N3 : News s.heap s.heap.objs.size s2.heap ((s.heap.objs.size + 1 + 1 + 1 + 1 + 1 + 1, oF) :: (Dr, listOf vr.toArray nr) :: (Sh, listOf its.toArray nn) :: (s.heap.objs.size + 1 + 1 + 1 + 1 + 1, oS) :: tups) := by
    intro q hq
    refine N2 q ?_
    simp only [List.mem_cons] at hq ⊢
    rcases hq with h | h | h | h | h <;> simp [h]
  clear N2 F N
  have hDr6 : @Ne Nat (s.heap.objs.size + 1 + 1 + 1 + 1 + 1 + 1) Dr := hneD (_, oF) (.tail _ (.tail _ (.head _)))
  have hDr5 : @Ne Nat (s.heap.objs.size + 1 + 1 + 1 + 1 + 1) Dr := hneD (_, oS) (.tail _ (.tail _ (.tail _ (.head _))))
  have hDrS : @Ne Nat Sh Dr := hneD (Sh, _) (.head _)
  refine storeX_C F2 N3 (by rfl) (.head ?_) h1 ?_ (by rfl) (by rfl)
  · intro q hq
    simp only [List.mem_cons] at hq
    rcases hq with rfl | rfl | rfl | hq
    · exact Ne.symm hDr6
    · exact Nat.ne_of_gt hSh
    · exact Nat.ne_of_lt (Nat.lt_succ_self _)
    · exact Nat.ne_of_gt (Nat.lt_trans hSh (hgt q hq))
  intro h3 oF3 F3 N4 d3
  clear F2 N3
  repeat ((fail_if_success (with_reducible show wpAny _ _ (eval (Expr.ListComp _ _ _ _) _) _ _ _)); walk1)
  refine lc_go (cl := [(Str.ofString "shown", s.heap.objs.size + 1 + 1 + 1 + 1 + 1)]) (by rfl) (by rfl) (by decide) ?_ (by intro _; rfl)
  repeat ((fail_if_success (with_reducible show wpAny _ _ (call (Value.ref 59) _) _ _ _)); walk1)
  refine words_call (by show A.depth + 1 < 860; omega) hh (T.keeps (Fr.keep (by assumption))) (fun x hx => (cs8_ok (hcs x (hws x hx))).2.2.2) (by omega) ?_
  intro Dw vw nw s4 hDw hDwn hvw K4
  have K5 : Kp _ s4 := K4
  have F5 := fr_kp (s := ⟨h3, s2.gens, s2.drawn, s2.toks, s2.os⟩) F3 K5
  have hN5 := news_new (s := ⟨h3, s2.gens, s2.drawn, s2.toks, s2.os⟩) F3 N4 K5 hDwn hDw
  have N5 := hN5.1
  clear hN5
  have R5 := R2.trans (show Rs s2.gens s2.os s4.gens s4.os from K4.rest)
  have hwk := words_ok (ws := ws) (by omega)
  have hvl := hvw.length
  rw [List.length_map] at hvl
  have hpsok : PsOk (psOf p ws (pairsL a b c)) := by
    intro q hq
    obtain ⟨⟨x, y⟩, hxy, rfl⟩ := List.mem_map.mp hq
    have hm := (List.mem_filter.mp hxy).1
    have hxy8 : x ∈ cs8 ∧ y ∈ cs8 := by
      simp only [pairsL, List.mem_cons, List.not_mem_nil, or_false, Prod.mk.injEq] at hm
      rcases hm with ⟨rfl, rfl⟩ | ⟨rfl, rfl⟩ | ⟨rfl, rfl⟩ | ⟨rfl, rfl⟩ <;> exact ⟨hcs _ (by simp), hcs _ (by simp)⟩
    exact ⟨hxy8.1, hxy8.2, fun c hc => hcs c (hws c (List.mem_filter.mp hc).1), Nat.le_trans (List.length_filter_le _ _) (by omega)⟩
  obtain ⟨OWN, N5', hOWN⟩ : ∃ OWN, News s.heap s.heap.objs.size _ OWN ∧ OWN = _ := ⟨_, N5, rfl⟩
  refine it_list (items := vw.toArray) (News.isList N5 (.head _)) F5 N5' ?_
  intro I h₂ o hI F₂ N₂ hlt
  refine cgo_intro (s₀ := s) (L := s.heap.objs.size) (by decide) (by rfl) (It.list (A := A.deeper _) (l := Dw) (items := vw.toArray) hh) hI F₂ N₂ (fun p hp => Nat.ne_of_lt (hlt p hp)) (BJ OWN (fun one => (psOf p ws (pairsL a b c)).all (fit1 one)) (wordsF ws) vw.toArray.size) ?_ (fin_none ?_)
  · intro C D7 oC7 s6 hC6 F8 N8 off6 ne6 hg6 ho6
    refine comp_loop (by rfl) (by rfl) (It.list (A := A.deeper _) (l := Dw) (items := vw.toArray) hh) (BJ OWN (fun one => (psOf p ws (pairsL a b c)).all (fit1 one)) (wordsF ws)) (TSN (Str.ofString "one")) ?_ ?_ ?_ hC6 ⟨rfl, Nat.zero_le _, rfl⟩ hI F8 N8 off6 ne6 (by rw [hg6, ho6]; exact R5) ?_
    · exact asg_comp (OK := fun i o => IsLI o Dw i) (by rfl) (by rfl) (fun _ => rfl) ⟨ne6.1, ne6.2.2⟩
    · rintro i mC ys own h' ⟨rfl, _⟩ _ N'
      subst hOWN
      exact News.isList N' (.head _)
    · rintro i mC ys own ⟨_, hi, rfl⟩
      simp; omega
    · rintro E6 i6 v6 s7 oI7 oC8 mC6 mC7 ys6 own6 hi6 hv6' ⟨rfl, hi7, rfl⟩ hTS6 hO6 hC7 F9 N9 off9 R9
      subst hOWN
      obtain ⟨x, tx, rfl, hxi⟩ : ∃ l tl, v6 = .str (sx l) tl ∧ (wordsF ws)[i6]? = some l := by
        obtain ⟨y, t, hv', hy'⟩ := hvw.item i6 v6 (by simpa using hv6')
        rw [List.getElem?_map] at hy'
        obtain ⟨l, hl1, hl2⟩ := Option.map_eq_some_iff.mp hy'
        exact ⟨l, t, by rw [hv', hl2], hl1⟩
      have hxm := List.mem_of_getElem? hxi
      have hx6 : mC7 (Str.ofString "one") = some (.str (sx x) tx) := by rw [hTS6]; rfl
      have hil : i6 < (wordsF ws).length := (List.getElem?_eq_some_iff.mp hxi).1
      have htk : (wordsF ws).take (i6 + 1) = (wordsF ws).take i6 ++ [x] := by rw [List.take_add_one, hxi]; rfl
      refine wpAny_tests_nil ?_
      simp only [if_true]
      refine gen_Q fun Q9 hQ9 => ?_
      repeat ((fail_if_success (with_reducible show wpAny _ _ (call (Value.ref 78) _) _ _ _)); walk1)
      have hsh : ShAre s7.heap its (psOf p ws (pairsL a b c)) := by
        refine ⟨hlen, fun j p' hj => ?_⟩
        obtain ⟨T1, a1, a2, o1, n1, g1, g2, g3, g4⟩ := hits j p' hj
        exact ⟨T1, a1, a2, g1, o1, (N9 (T1, o1) (.tail _ (.tail _ (.tail _ (.tail _ (.tail _ (.tail _ (.tail _ (.tail _ (g2)))))))))).1, g3, n1, g4⟩
      refine fits_call (by show A.depth + 1 < 860; omega) hh (T.keeps F9.keep) (fun y hy => hcs y (hwm x hxm y hy)) (by rw [hwk.1 x hxm]; omega) (News.isList N9 (.tail _ (.tail _ (.tail _ (.tail _ (.tail _ (.tail _ (.head _)))))))) hsh hpsok ?_
      intro s9 K9
      subst hQ9
      show CEnd _ _ _ _ _ _ _ _ _ _
      refine ⟨_, _, _, hC7, ⟨rfl, hil, ?_⟩, fr_kp F9 K9, news_kp N9 K9, off9, R9.trans K9.rest⟩
      rw [htk, List.map_append, List.map_append]
      rfl
  · rintro D1 mC ys1 own1 s7 ⟨rfl, hi, rfl⟩ F8 N8 off8 R8
    subst hOWN
    refine lc_go (cl := [(Str.ofString "found", s.heap.objs.size + 1 + 1 + 1 + 1 + 1 + 1)]) (by rfl) (by rfl) (by decide) ?_ (by intro _; rfl)
    repeat ((fail_if_success (with_reducible show wpAny _ _ (call (Value.ref 59) _) _ _ _)); walk1)
    refine words_call (by show A.depth + 1 < 860; omega) hh (T.keeps (Fr.keep (by assumption))) (fun x hx => (cs8_ok (hcs x (hws x hx))).2.2.2) (by omega) ?_
    intro Dx vx nx s8 hDx hDxn hvx K8
    have F9 := fr_kp F8 K8
    have hN9 := news_new F8 N8 K8 hDxn hDx
    have N9 := hN9.1
    clear hN9
    have R9 := R8.trans K8.rest
    have hvl2 := hvx.length
    rw [List.length_map] at hvl2
    obtain ⟨OWN2, N9', hOWN2⟩ : ∃ OWN, News s.heap s.heap.objs.size _ OWN ∧ OWN = _ := ⟨_, N9, rfl⟩
    refine it_list (items := vx.toArray) (News.isList N9 (.head _)) F9 N9' ?_
    intro I2 h10 o2 hI2 F10 N10 hlt2
    refine cgo_intro (s₀ := s) (L := s.heap.objs.size) (by decide) (by rfl) (It.list (A := A.deeper _) (l := Dx) (items := vx.toArray) hh) hI2 F10 N10 (fun p hp => Nat.ne_of_lt (hlt2 p hp)) (BJ OWN2 (fun one => decide (one ∈ res)) (wordsF ws) vx.toArray.size) ?_ (fin_none ?_)
    · intro C D7 oC7 s6 hC6 F8 N8 off6 ne6 hg6 ho6
      refine comp_loop (by rfl) (by rfl) (It.list (A := A.deeper _) (l := Dx) (items := vx.toArray) hh) (BJ OWN2 (fun one => decide (one ∈ res)) (wordsF ws)) (TSN (Str.ofString "one")) ?_ ?_ ?_ hC6 ⟨rfl, Nat.zero_le _, rfl⟩ hI2 F8 N8 off6 ne6 (by rw [hg6, ho6]; exact R9) ?_
      · exact asg_comp (OK := fun i o => IsLI o Dx i) (by rfl) (by rfl) (fun _ => rfl) ⟨ne6.1, ne6.2.2⟩
      · rintro i mC ys own h' ⟨rfl, _⟩ _ N'
        subst hOWN2
        exact News.isList N' (.head _)
      · rintro i mC ys own ⟨_, hi, rfl⟩
        simp; omega
      · rintro E6 i6 v6 s7 oI7 oC8 mC6 mC7 ys6 own6 hi6 hv6' ⟨rfl, hi7, rfl⟩ hTS6 hO6 hC7 F9 N9 off9 R9
        subst hOWN2
        obtain ⟨x, tx, rfl, hxi⟩ : ∃ l tl, v6 = .str (sx l) tl ∧ (wordsF ws)[i6]? = some l := by
          obtain ⟨y, t, hv', hy'⟩ := hvx.item i6 v6 (by simpa using hv6')
          rw [List.getElem?_map] at hy'
          obtain ⟨l, hl1, hl2⟩ := Option.map_eq_some_iff.mp hy'
          exact ⟨l, t, by rw [hv', hl2], hl1⟩
        have hx6 : mC7 (Str.ofString "one") = some (.str (sx x) tx) := by rw [hTS6]; rfl
        have hil : i6 < (wordsF ws).length := (List.getElem?_eq_some_iff.mp hxi).1
        have htk : (wordsF ws).take (i6 + 1) = (wordsF ws).take i6 ++ [x] := by rw [List.take_add_one, hxi]; rfl
        refine wpAny_tests_nil ?_
        simp only [if_true]
        refine gen_Q fun Q9 hQ9 => ?_
        repeat ((fail_if_success (with_reducible show wpAny _ _ (compareOp _ _ _) _ _ _)); walk1)
        refine r_inL (News.isList N9 (.tail _ (.tail _ (.tail _ (.tail _ (.tail _ (.tail _ (.tail _ (.head _))))))))) hvr ?_
        subst hQ9
        refine ⟨_, _, _, hC7, ⟨rfl, hil, ?_⟩, F9, N9, off9, R9⟩
        rw [htk, List.map_append, List.map_append]
        rfl
    · rintro D2 mC2 ys2 own2 s9 ⟨rfl, hi2, rfl⟩ F11 N11 off11 R11
      subst hOWN2
      repeat ((fail_if_success (with_reducible show wpAny _ _ (compareOp _ _ _) _ _ _)); walk1)
      have e1 : (wordsF ws).take vw.toArray.size = wordsF ws := by rw [List.size_toArray, hvl, List.take_length]
      have e3 : (wordsF ws).take vx.toArray.size = wordsF ws := by rw [List.size_toArray, hvl2, List.take_length]
      have g1 : s9.heap.IsList D1 _ := ⟨_, (N11 _ (.tail _ (.tail _ (.head _)))).1, rfl, _, rfl⟩
      have g2 : s9.heap.IsList D2 _ := ⟨_, (N11 _ (.head _)).1, rfl, _, rfl⟩
      rw [e1, heq] at g1
      rw [e3] at g2
      refine r_eqBools g1 g2 (by show A.units + 3 + 64 < cLine; omega) ?_
      exact h s9 (Kp.of F11 R11)

noncomputable def freeI (f01 f12 f02 : Bool) : List (List Nat) :=
  (if f01 then [[0, 1]] else []) ++ (if f02 then [[0, 2]] else []) ++ (if f01 then [[1, 0]] else []) ++ (if f12 then [[1, 2]] else []) ++ (if f02 then [[2, 0]] else []) ++ (if f12 then [[2, 1]] else [])
noncomputable def psI (f01 f12 f02 : Bool) (us : List Nat) : List (Nat × Nat × List Nat) :=
  (if f01 then [] else [(0, 1, us.filter (fun c => decide (c ∈ [0, 1])))]) ++ (if f12 then [] else [(1, 2, us.filter (fun c => decide (c ∈ [1, 2])))]) ++ (if f02 then [] else [(0, 2, us.filter (fun c => decide (c ∈ [0, 2])))]) ++ [(1, 1, us.filter (fun c => decide (c ∈ [1, 1])))]
noncomputable def chk (f01 f12 f02 : Bool) (us : List Nat) : Bool := match chgRun (freeI f01 f12 f02) 30 [us] 0 with
  | none => false
  | some res => (wordsF us).all (fun one => (psI f01 f12 f02 us).all (fit1 one) == decide (one ∈ res))
noncomputable def us1 (x : Nat) : List (List Nat) := [0, 1, 2].flatMap fun y => [0, 1, 2].flatMap fun z => [0, 1, 2].map fun t => [x, y, z, t]
theorem chk_00 : (us1 0).all (chk false false false) = true := by decide +kernel
theorem chk_01 : (us1 1).all (chk false false false) = true := by decide +kernel
theorem chk_02 : (us1 2).all (chk false false false) = true := by decide +kernel
theorem chk_10 : (us1 0).all (chk true false false) = true := by decide +kernel
theorem chk_11 : (us1 1).all (chk true false false) = true := by decide +kernel
theorem chk_12 : (us1 2).all (chk true false false) = true := by decide +kernel
theorem chk_20 : (us1 0).all (chk false true false) = true := by decide +kernel
theorem chk_21 : (us1 1).all (chk false true false) = true := by decide +kernel
theorem chk_22 : (us1 2).all (chk false true false) = true := by decide +kernel
theorem chk_30 : (us1 0).all (chk true true false) = true := by decide +kernel
theorem chk_31 : (us1 1).all (chk true true false) = true := by decide +kernel
theorem chk_32 : (us1 2).all (chk true true false) = true := by decide +kernel
theorem chk_40 : (us1 0).all (chk false false true) = true := by decide +kernel
theorem chk_41 : (us1 1).all (chk false false true) = true := by decide +kernel
theorem chk_42 : (us1 2).all (chk false false true) = true := by decide +kernel
theorem chk_50 : (us1 0).all (chk true false true) = true := by decide +kernel
theorem chk_51 : (us1 1).all (chk true false true) = true := by decide +kernel
theorem chk_52 : (us1 2).all (chk true false true) = true := by decide +kernel
theorem chk_60 : (us1 0).all (chk false true true) = true := by decide +kernel
theorem chk_61 : (us1 1).all (chk false true true) = true := by decide +kernel
theorem chk_62 : (us1 2).all (chk false true true) = true := by decide +kernel
theorem chk_70 : (us1 0).all (chk true true true) = true := by decide +kernel
theorem chk_71 : (us1 1).all (chk true true true) = true := by decide +kernel
theorem chk_72 : (us1 2).all (chk true true true) = true := by decide +kernel
theorem chk_all (f01 f12 f02 : Bool) (us : List Nat) (hl : us.length = 4) (hu : ∀ x ∈ us, x < 3) : chk f01 f12 f02 us = true := by
  have hm : ∃ x, x < 3 ∧ us ∈ us1 x := by
    match us, hl with
    | [x, y, z, t], _ =>
      have hx := hu x (by simp)
      have hy := hu y (by simp)
      have hz := hu z (by simp)
      have ht := hu t (by simp)
      refine ⟨x, hx, ?_⟩
      have hlt : ∀ n : Nat, n < 3 → n ∈ [0, 1, 2] := by decide
      exact List.mem_flatMap.mpr ⟨y, hlt y hy, List.mem_flatMap.mpr ⟨z, hlt z hz, List.mem_map.mpr ⟨t, hlt t ht, rfl⟩⟩⟩
  obtain ⟨x, hx, hm⟩ := hm
  have hc : x = 0 ∨ x = 1 ∨ x = 2 := by omega
  rcases hc with rfl | rfl | rfl <;> cases f01 <;> cases f12 <;> cases f02
  · exact List.all_eq_true.mp chk_00 us hm
  · exact List.all_eq_true.mp chk_40 us hm
  · exact List.all_eq_true.mp chk_20 us hm
  · exact List.all_eq_true.mp chk_60 us hm
  · exact List.all_eq_true.mp chk_10 us hm
  · exact List.all_eq_true.mp chk_50 us hm
  · exact List.all_eq_true.mp chk_30 us hm
  · exact List.all_eq_true.mp chk_70 us hm
  · exact List.all_eq_true.mp chk_01 us hm
  · exact List.all_eq_true.mp chk_41 us hm
  · exact List.all_eq_true.mp chk_21 us hm
  · exact List.all_eq_true.mp chk_61 us hm
  · exact List.all_eq_true.mp chk_11 us hm
  · exact List.all_eq_true.mp chk_51 us hm
  · exact List.all_eq_true.mp chk_31 us hm
  · exact List.all_eq_true.mp chk_71 us hm
  · exact List.all_eq_true.mp chk_02 us hm
  · exact List.all_eq_true.mp chk_42 us hm
  · exact List.all_eq_true.mp chk_22 us hm
  · exact List.all_eq_true.mp chk_62 us hm
  · exact List.all_eq_true.mp chk_12 us hm
  · exact List.all_eq_true.mp chk_52 us hm
  · exact List.all_eq_true.mp chk_32 us hm
  · exact List.all_eq_true.mp chk_72 us hm

section
variable {f : Nat → Nat} (hf : ∀ x y, f x = f y → x = y)
include hf
theorem fm_inj {l l' : List Nat} (h : l.map f = l'.map f) : l = l' := by
  induction l generalizing l' with
  | nil => cases l' with
    | nil => rfl
    | cons y r => simp at h
  | cons x r ih => cases l' with
    | nil => simp at h
    | cons y r' =>
      simp only [List.map_cons, List.cons.injEq] at h
      rw [hf x y h.1, ih h.2]
theorem fm_mem {l : List (List Nat)} {x : List Nat} : x.map f ∈ l.map (List.map f) ↔ x ∈ l := by
  constructor
  · intro h
    obtain ⟨y, hy, e⟩ := List.mem_map.mp h
    rw [← fm_inj hf e]; exact hy
  · exact fun h => List.mem_map_of_mem h
theorem addNew_map (acc : List (List Nat)) (x : List Nat) : addNew (acc.map (List.map f)) (x.map f) = (addNew acc x).map (List.map f) := by
  unfold addNew
  by_cases h : x ∈ acc
  · rw [if_pos h, if_pos ((fm_mem hf).mpr h)]
  · rw [if_neg h, if_neg (fun z => h ((fm_mem hf).mp z))]; simp
omit hf in
theorem ins_map (c : Nat) (one : List Nat) (k : Nat) : ins (f c) (one.map f) k = (ins c one k).map f := by
  unfold ins; simp
theorem long1_map (c : Nat) (acc : List (List Nat)) (one : List Nat) : long1 (f c) (acc.map (List.map f)) (one.map f) = (long1 c acc one).map (List.map f) := by
  unfold long1
  rw [List.length_map]
  generalize List.range (one.length + 1) = ks
  induction ks generalizing acc with
  | nil => rfl
  | cons k ks ih =>
    rw [List.foldl_cons, List.foldl_cons, ins_map, addNew_map hf, ih]
theorem longer_map (words : List (List Nat)) (c : Nat) : longer (words.map (List.map f)) (f c) = (longer words c).map (List.map f) := by
  unfold longer
  have key : ∀ (words acc : List (List Nat)), (words.map (List.map f)).foldl (long1 (f c)) (acc.map (List.map f)) = (words.foldl (long1 c) acc).map (List.map f) := by
    intro words
    induction words with
    | nil => intro acc; rfl
    | cons w words ih => intro acc; rw [List.map_cons, List.foldl_cons, List.foldl_cons, long1_map hf, ih]
  exact key words []
theorem words_map (us : List Nat) : wordsF (us.map f) = (wordsF us).map (List.map f) := by
  unfold wordsF
  have key : ∀ (us : List Nat) (words : List (List Nat)), (us.map f).foldl longer (words.map (List.map f)) = (us.foldl longer words).map (List.map f) := by
    intro us
    induction us with
    | nil => intro words; rfl
    | cons c us ih => intro words; rw [List.map_cons, List.foldl_cons, List.foldl_cons, longer_map hf, ih]
  exact key us [[]]
omit hf in
theorem getD_map {one : List Nat} {k : Nat} (h : k < one.length) : (one.map f).getD k 0 = f (one.getD k 0) := by
  simp [List.getD, h]
omit hf in
theorem swp_map {one : List Nat} {k : Nat} (h : k + 1 < one.length) : swp (one.map f) k = (swp one k).map f := by
  unfold swp
  rw [getD_map h, getD_map (show k < one.length by omega)]
  simp
omit hf in
theorem pr2_map {one : List Nat} {k : Nat} (h : k + 1 < one.length) : pr2 (one.map f) k = (pr2 one k).map f := by
  unfold pr2
  rw [getD_map h, getD_map (show k < one.length by omega)]
  simp
theorem chg1_map {free : List (List Nat)} {one : List Nat} {k : Nat} (acc : List (List Nat)) (h : k + 1 < one.length) : chg1 (free.map (List.map f)) (one.map f) (acc.map (List.map f)) k = (chg1 free one acc k).map (List.map f) := by
  unfold chg1
  rw [swp_map h, pr2_map h]
  by_cases h1 : pr2 one k ∈ free ∧ swp one k ∉ acc
  · rw [if_pos h1, if_pos ⟨(fm_mem hf).mpr h1.1, fun z => h1.2 ((fm_mem hf).mp z)⟩]; simp
  · rw [if_neg h1, if_neg (fun z => h1 ⟨(fm_mem hf).mp z.1, fun y => z.2 ((fm_mem hf).mpr y)⟩)]
theorem chgS_map {free : List (List Nat)} {one : List Nat} (acc : List (List Nat)) (h : one.length = 4) : chgS (free.map (List.map f)) (one.map f) (acc.map (List.map f)) = (chgS free one acc).map (List.map f) := by
  unfold chgS
  have e : List.range 3 = [0, 1, 2] := rfl
  rw [e]
  simp only [List.foldl_cons, List.foldl_nil]
  rw [chg1_map hf acc (by omega), chg1_map hf _ (by omega), chg1_map hf _ (by omega)]
theorem chgRun_map {free : List (List Nat)} : ∀ (n : Nat) (found : List (List Nat)) (done : Nat), (∀ x ∈ found, x.length = 4) → chgRun (free.map (List.map f)) n (found.map (List.map f)) done = (chgRun free n found done).map (List.map (List.map f))
  | 0, found, done, _ => by
    unfold chgRun
    rw [List.length_map]
    split <;> rfl
  | n + 1, found, done, h => by
    unfold chgRun
    rw [List.length_map]
    by_cases hlt : done < found.length
    · rw [if_pos hlt, if_pos hlt]
      have e : (found.map (List.map f)).getD done [] = (found.getD done []).map f := by simp [List.getD, hlt]
      have e2 : found.getD done [] = found[done] := by simp [List.getD, hlt]
      have hl : (found.getD done []).length = 4 := by rw [e2]; exact h _ (List.getElem_mem hlt)
      rw [e, chgS_map hf _ hl]
      refine chgRun_map n _ _ ?_
      exact (chg_part (free := free) hl h 3 (Nat.le_refl _)).1
    · rw [if_neg hlt, if_neg hlt]; rfl
theorem afterC_map (c : Nat) (l : List Nat) : afterC (f c) (l.map f) = (afterC c l).map (List.map f) := by
  induction l with
  | nil => rfl
  | cons y t ih =>
    simp only [List.map_cons, afterC]
    by_cases h : y = c
    · rw [if_pos h, if_pos (by rw [h])]; rfl
    · rw [if_neg h, if_neg (fun z => h (hf _ _ z)), ih]
theorem subW_map : ∀ (w : List (List Nat)) (t : List Nat), (∀ x ∈ w, x.length ≤ 1) → subW (w.map (List.map f)) (t.map f) = subW w t
  | [], t, _ => rfl
  | [] :: r, t, h => by
    show subW (r.map (List.map f)) (t.map f) = subW r t
    exact subW_map r t fun x hx => h x (.tail _ hx)
  | (c :: q) :: r, t, h => by
    show (match afterC (f c) (t.map f) with | none => false | some t' => subW (r.map (List.map f)) t') = (match afterC c t with | none => false | some t' => subW r t')
    rw [afterC_map hf]
    cases afterC c t with
    | none => rfl
    | some t' => exact subW_map r t' fun x hx => h x (.tail _ hx)
omit hf in
theorem pws_map (xs : List Nat) : pws (xs.map f) = (pws xs).map (List.map f) := by
  cases xs with
  | nil => rfl
  | cons x r => simp [pws]
omit hf in
theorem pws_le (xs : List Nat) : ∀ l ∈ pws xs, l.length ≤ 1 := by
  cases xs with
  | nil => simp [pws]
  | cons x r =>
    intro l hl
    simp only [pws, List.cons_append, List.mem_cons, List.mem_append, List.mem_map, List.not_mem_nil, or_false] at hl
    rcases hl with rfl | ⟨c, _, rfl⟩ | rfl <;> simp
theorem filter_map2 (x y : Nat) (us : List Nat) : (us.map f).filter (fun c => decide (c ∈ [f x, f y])) = (us.filter (fun c => decide (c ∈ [x, y]))).map f := by
  rw [List.filter_map]
  congr 1
  apply List.filter_congr
  intro c _
  have : f c ∈ [f x, f y] ↔ c ∈ [x, y] := by
    simp only [List.mem_cons, List.not_mem_nil, or_false]
    constructor
    · rintro (h | h)
      · exact .inl (hf _ _ h)
      · exact .inr (hf _ _ h)
    · rintro (rfl | rfl)
      · exact .inl rfl
      · exact .inr rfl
  simp only [Function.comp_apply, decide_eq_decide]
  exact this
theorem fit1_map (us : List Nat) (x y : Nat) (zs : List Nat) : fit1 (us.map f) (f x, f y, zs.map f) = fit1 us (x, y, zs) := by
  unfold fit1
  simp only
  rw [filter_map2 hf, pws_map, subW_map hf _ _ (pws_le zs)]
end

noncomputable def ph (a b c : Nat) (i : Nat) : Nat := if i = 0 then a else if i = 1 then b else if i = 2 then c else i + 1000
noncomputable def phI (a b c : Nat) (n : Nat) : Nat := if n = a then 0 else if n = b then 1 else if n = c then 2 else n - 1000
theorem ph_inv {a b c : Nat} (hnd : [a, b, c].Nodup) (ha : a < 128) (hb : b < 128) (hc : c < 128) (x : Nat) : phI a b c (ph a b c x) = x := by
  simp only [List.nodup_cons, List.mem_cons, List.not_mem_nil, or_false, not_or, not_false_eq_true, List.nodup_nil, and_true] at hnd
  obtain ⟨⟨hab, hac⟩, hbc⟩ := hnd
  match x with
  | 0 => exact if_pos rfl
  | 1 => exact (if_neg (Ne.symm hab)).trans (if_pos rfl)
  | 2 => exact (if_neg (Ne.symm hac)).trans ((if_neg (Ne.symm hbc)).trans (if_pos rfl))
  | x + 3 =>
    have h : ∀ n : Nat, n < 128 → ¬ x + 3 + 1000 = n := fun n hn => by clear hab hac hbc ha hb hc; omega
    exact (if_neg (h a ha)).trans ((if_neg (h b hb)).trans ((if_neg (h c hc)).trans (Nat.add_sub_cancel _ _)))
theorem ph_inj {a b c : Nat} (hnd : [a, b, c].Nodup) (ha : a < 128) (hb : b < 128) (hc : c < 128) : ∀ x y, ph a b c x = ph a b c y → x = y := by
  intro x y h
  rw [← ph_inv hnd ha hb hc x, ← ph_inv hnd ha hb hc y, h]
theorem frq_self (p : Int) (hp : 0 ≤ p) (x : Nat) : frq p x x = false := by
  unfold frq
  rw [decide_eq_false_iff_not]
  split <;> omega
theorem frq_symm (p : Int) (x y : Nat) : frq p x y = frq p y x := by
  unfold frq
  rw [decide_eq_decide]
  split <;> split <;> omega
theorem dep_frq (p : Int) (x y : Nat) : dep p x y = !frq p x y := by
  unfold dep frq
  rw [← decide_not, decide_eq_decide]
  split <;> split <;> omega
theorem free_map {a b c : Nat} {p : Int} (hp : 0 ≤ p) : freeL p [a, b, c] [a, b, c] = (freeI (frq p a b) (frq p b c) (frq p a c)).map (List.map (ph a b c)) := by
  have haa := frq_self p hp a
  have hbb := frq_self p hp b
  have hcc := frq_self p hp c
  have hba := frq_symm p b a
  have hca := frq_symm p c a
  have hcb := frq_symm p c b
  unfold freeL
  simp only [List.flatMap_cons, List.flatMap_nil, List.append_nil, frow, List.filter_cons, List.filter_nil, haa, hbb, hcc, hba, hca, hcb]
  cases frq p a b <;> cases frq p b c <;> cases frq p a c <;> rfl
theorem ps_map {a b c : Nat} {p : Int} (hp : 0 ≤ p) (hf : ∀ x y, ph a b c x = ph a b c y → x = y) (us : List Nat) :
    psOf p (us.map (ph a b c)) (pairsL a b c) = (psI (frq p a b) (frq p b c) (frq p a c) us).map (fun q => (ph a b c q.1, ph a b c q.2.1, q.2.2.map (ph a b c))) := by
  have e0 : ph a b c 0 = a := rfl
  have e1 : ph a b c 1 = b := rfl
  have e2 : ph a b c 2 = c := rfl
  have g1 := filter_map2 hf 0 1 us
  have g2 := filter_map2 hf 1 2 us
  have g3 := filter_map2 hf 0 2 us
  have g4 := filter_map2 hf 1 1 us
  rw [e0, e1] at g1
  rw [e1, e2] at g2
  rw [e0, e2] at g3
  rw [e1] at g4
  have hbb := frq_self p hp b
  unfold psOf pairsL psI
  simp only [List.filter_cons, List.filter_nil, dep_frq, hbb]
  cases frq p a b <;> cases frq p b c <;> cases frq p a c <;> simp only [Bool.not_false, Bool.not_true, if_true, if_false, Bool.false_eq_true, List.map_cons, List.map_nil, List.nil_append, List.cons_append, List.append_nil, g1, g2, g3, g4, e0, e1, e2]
theorem wordsF_sub (us : List Nat) (P : Nat → Prop) (h : ∀ x ∈ us, P x) : ∀ one ∈ wordsF us, ∀ x ∈ one, P x := by
  have hins : ∀ (c : Nat) (one : List Nat) (k : Nat), P c → (∀ x ∈ one, P x) → ∀ x ∈ ins c one k, P x := by
    intro c one k hc ho x hx
    unfold ins at hx
    simp only [List.mem_append, List.mem_singleton] at hx
    rcases hx with (hx | rfl) | hx
    · exact ho x (List.mem_of_mem_take hx)
    · exact hc
    · exact ho x (List.mem_of_mem_drop hx)
  have hlong1 : ∀ (c : Nat) (one : List Nat) (ks : List Nat) (acc : List (List Nat)), P c → (∀ x ∈ one, P x) → (∀ w ∈ acc, ∀ x ∈ w, P x) → ∀ w ∈ ks.foldl (fun acc k => addNew acc (ins c one k)) acc, ∀ x ∈ w, P x := by
    intro c one ks
    induction ks with
    | nil => intro acc _ _ ha; exact ha
    | cons k ks ih =>
      intro acc hc ho ha
      rw [List.foldl_cons]
      refine ih _ hc ho ?_
      intro w hw
      unfold addNew at hw
      split at hw
      · exact ha w hw
      · rcases List.mem_append.mp hw with hw | hw
        · exact ha w hw
        · rw [List.mem_singleton.mp hw]; exact hins c one k hc ho
  have hlonger : ∀ (c : Nat) (words acc : List (List Nat)), P c → (∀ w ∈ words, ∀ x ∈ w, P x) → (∀ w ∈ acc, ∀ x ∈ w, P x) → ∀ w ∈ words.foldl (long1 c) acc, ∀ x ∈ w, P x := by
    intro c words
    induction words with
    | nil => intro acc _ _ ha; exact ha
    | cons w words ih =>
      intro acc hc hw ha
      rw [List.foldl_cons]
      exact ih _ hc (fun x hx => hw x (.tail _ hx)) (hlong1 c w _ acc hc (hw w (.head _)) ha)
  have key : ∀ (us : List Nat) (words : List (List Nat)), (∀ x ∈ us, P x) → (∀ w ∈ words, ∀ x ∈ w, P x) → ∀ w ∈ us.foldl longer words, ∀ x ∈ w, P x := by
    intro us
    induction us with
    | nil => intro words _ hw; exact hw
    | cons c us ih =>
      intro words hu hw
      rw [List.foldl_cons]
      exact ih _ (fun x hx => hu x (.tail _ hx)) (hlonger c words [] (hu c (.head _)) hw (by simp))
  exact key us [[]] h (by simp)
theorem plain_law {a b c : Nat} {ws : List Nat} {p : Int} (hnd : [a, b, c].Nodup) (hcs : ∀ x ∈ [a, b, c], x ∈ cs8) (hws : ∀ x ∈ ws, x ∈ [a, b, c]) (hwl : ws.length = 4) (hp0 : 0 ≤ p) :
    ∃ res, chgRun (freeL p [a, b, c] [a, b, c]) 30 [ws] 0 = some res ∧ (wordsF ws).map (fun one => (psOf p ws (pairsL a b c)).all (fit1 one)) = (wordsF ws).map (fun one => decide (one ∈ res)) ∧ ∀ one ∈ wordsF ws, ∀ x ∈ one, x ∈ [a, b, c] := by
  have h128 : ∀ x ∈ [a, b, c], x < 128 := fun x hx => (cs8_ok (hcs x hx)).2.2.2
  have hf := ph_inj hnd (h128 a (by simp)) (h128 b (by simp)) (h128 c (by simp))
  obtain ⟨us, hul, hu3, rfl⟩ : ∃ us : List Nat, us.length = 4 ∧ (∀ x ∈ us, x < 3) ∧ ws = us.map (ph a b c) := by
    refine ⟨ws.map (fun x => if x = a then 0 else if x = b then 1 else 2), by simpa using hwl, ?_, ?_⟩
    · intro x hx
      obtain ⟨y, _, rfl⟩ := List.mem_map.mp hx
      split
      · omega
      · split <;> omega
    · rw [List.map_map]
      refine (List.map_id' ws).symm.trans (List.map_congr_left fun x hx => ?_)
      have hm := hws x hx
      simp only [List.mem_cons, List.not_mem_nil, or_false] at hm
      simp only [Function.comp_apply]
      by_cases h1 : x = a
      · rw [if_pos h1]; exact h1
      · rw [if_neg h1]
        by_cases h2 : x = b
        · rw [if_pos h2]; exact h2
        · rw [if_neg h2]
          rcases hm with h | h | h
          · exact absurd h h1
          · exact absurd h h2
          · exact h
  have hc := chk_all (frq p a b) (frq p b c) (frq p a c) us hul hu3
  unfold chk at hc
  cases hr : chgRun (freeI (frq p a b) (frq p b c) (frq p a c)) 30 [us] 0 with
  | none => rw [hr] at hc; cases hc
  | some res =>
    rw [hr] at hc
    dsimp only at hc
    refine ⟨res.map (List.map (ph a b c)), ?_, ?_, wordsF_sub _ _ hws⟩
    · have := chgRun_map hf (free := freeI (frq p a b) (frq p b c) (frq p a c)) 30 [us] 0 (by simpa using hul)
      rw [hr] at this
      rw [free_map hp0]
      exact this
    · rw [words_map hf, List.map_map, List.map_map]
      refine List.map_congr_left fun one hone => ?_
      have h1 := List.all_eq_true.mp hc one hone
      have h2 : (psI (frq p a b) (frq p b c) (frq p a c) us).all (fit1 one) = decide (one ∈ res) := eq_of_beq h1
      simp only [Function.comp_apply]
      rw [ps_map hp0 hf, List.all_map]
      have h3 : decide (one.map (ph a b c) ∈ res.map (List.map (ph a b c))) = decide (one ∈ res) := by
        rw [decide_eq_decide]; exact fm_mem hf
      rw [h3, ← h2]
      congr 1
      funext q
      exact fit1_map hf one q.1 q.2.1 q.2.2

theorem law_call {prog : Program} {w : World} {mean mg mb} {A : Around} {s : Shared} {Q E : Value → Shared → Prop} {Sa : Addr} {vs : List Value} {ns : List Int}
   (hd : A.depth < 500) (hh : A.handled = none) (hu : A.units + 100 < cLine) (T : TK w mean mg mb s.heap) (hS : s.heap.IsList Sa vs.toArray) (hi : IntsAre vs ns) (hn : ns.length ≤ 63)
   (h : ∀ s', Kp s s' → Q (.bool true) s') :
   wpAny (model prog w) A (call (.ref 83) [.ref Sa]) Q E s := by
  refine law_start hd hh T hS hi hn fun fd body hf hb D ys ds s₁ oF oS oR oG oK oC hds hdl h1 h2 h3 h4 h5 h6 F N R hDo => ?_
  refine seg1 hf hb hd hh T hds hdl h1 h2 h3 h4 h5 h6 F N R hDo fun fd body hf hb a b c ws p tl tp tw tr oF oS oR oG oK s₂ m hnd hcs hwl hws hp0 hp3 h1 h2 h3 h4 h5 hmw F N R => ?_
  obtain ⟨res, hrun, heq, hwm⟩ := plain_law hnd hcs hws hwl hp0
  refine seg2 hf hb hd hh T hcs hp0 hp3 h1 h2 h3 h4 h5 hmw F N R fun fd body hf hb D ys s₂ m hys hmw hmf F N R hDo => ?_
  refine seg3 hf hb hd hh T hcs hws hwl h1 h2 h3 h4 h5 hmw hmf F N R hDo fun fd body hf hb Sh its nn tups oS2 s₂ m hS2 hmw hmf hgt hSh hlen hits F N R => ?_
  exact seg4 hf hb hd hh hu T hcs hws hwl h1 hS2 hmw hmf hys hgt hSh hlen hits F N R hrun heq hwm h
theorem top_holds : PySem.Challenge.rw_rs0128_01.Holds := by
  refine hd ?_
  k_fill
  intro w s₀ s₁ mg mb G Y fa o pm cd doc dV kV ho hd hcd hD hmg hg args vals as hpre hlay hrd hwl hlo
  have KX := kIn_of Y
  refine Ground.open G ?_
  intro T B D TE TW
  wrow_args hpre hlay hrd hwl hlo
  x_fa T KX hmg
  rename_i hL _ _ _ hI _ hcond _
  have hlen : ∀ n : Nat, ¬ ((63 : Nat) : Int) < (n : Int) → n ≤ 63 := fun n h => by omega
  refine law_call (mean := ExcName.means s₀.heap) (mg := mg) (mb := mb) (by decide) rfl (by decide) ⟨KX, T⟩ hL hI (hlen _ hcond) ?_
  intro s' K
  refine ⟨.inl ⟨_, _, [], rfl, fun _ => rfl, PySem.W.ReadsW.bool true, ?_, fun _ => ⟨List.nodup_nil, fun _ hm => nomatch hm⟩⟩, .of_keep K.heap, K.rest.os, K.rest.bare (by rw [hg]; exact AllBare.empty)⟩
  first | rfl | wrow_post

end Mine
theorem PySem.Challenge.cw_rs0128_01_holds : PySem.Challenge.rw_rs0128_01.Holds := by
  exact Mine.top_holds
