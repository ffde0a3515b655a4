import PyProof.Rows.All
import Wide.All
import OpenK.AllK
import Wide.FinOn
import PyProof.SeqInW
import PyProof.ExcFactsAll.RuntimeError
import PyProof.ExcStrAll.RuntimeError
import PyProof.ExcStrCall
import PyProof.ExcAttrAll.RuntimeError
import PySem.Challenge.RW_oc0008_01

open PySem PySem.W PyProof.Rows
set_option Elab.async false
set_option maxRecDepth 100000
set_option maxHeartbeats 8000000

namespace Mine
open_top hd for PySem.Challenge.rw_oc0008_01
end Mine

namespace Mine

/-- every object that stands in h outside W stands in h' -/
def KO (W : Addr → Prop) (h h' : Heap) : Prop := ∀ b o, ¬ W b → h.get? b = some o → h'.get? b = some o
/-- every object that stands in h stands in h' -/
def KA (h h' : Heap) : Prop := ∀ b o, h.get? b = some o → h'.get? b = some o

theorem KA.refl (h : Heap) : KA h h := fun _ _ e => e
theorem KA.trans {a b c : Heap} (x : KA a b) (y : KA b c) : KA a c := fun p o e => y p o (x p o e)
theorem KA.push (h : Heap) (o : Obj) : KA h (h.push o) := fun _ _ e => Heap.get?_push_of_some _ e
theorem KO.refl (W : Addr → Prop) (h : Heap) : KO W h h := fun _ _ _ e => e
theorem KO.trans {W : Addr → Prop} {a b c : Heap} (x : KO W a b) (y : KO W b c) : KO W a c := fun p o n e => y p o n (x p o n e)
theorem KO.mono {W W' : Addr → Prop} {a b : Heap} (x : KO W a b) (h : ∀ p, W p → W' p) : KO W' a b := fun p o n e => x p o (fun q => n (h p q)) e
theorem KA.ko {W : Addr → Prop} {a b : Heap} (x : KA a b) : KO W a b := fun p o _ e => x p o e
theorem ko_same {a : Addr} {h h' : Heap} (x : Heap.SameBut a h h') : KO (· = a) h h' := fun b o n e => x.extBut b o n e

abbrev Sh (s : Shared) (h : Heap) (tk : Nat) : Shared := { s with heap := h, toks := tk }

section
variable {prog : Program} {w : World} {A : Around} {E : Value → Shared → Prop} {s : Shared} {env : Env}

/-- the exceptions of a for's body -/
abbrev EIn (prog : Program) (w : World) (A : Around) (env : Env) (E : Value → Shared → Prop) : Value → Shared → Prop :=
  notedBy (model prog w) A env fun e s' => cameBackBy (model prog w) A env E e s'

/-- where a loop's turn ends -/
def TurnEnd (Q : Flow → Shared → Prop) (N : Shared → Prop) (f : Flow) (s : Shared) : Prop := match f with
  | .next => N s
  | .cont => N s
  | .brk => Q .next s
  | .ret v => Q (.ret v) s

theorem for_walk {target iter : Expr} {body orelse : List Stmt} {pos : Pos} {Q : Flow → Shared → Prop}
    (h : wpAny (model prog w) A (eval iter env) (fun xv s₁ => wpAny (model prog w) A (pyIter xv) (fun it s₂ =>
      ∃ I fp wr n P St, ∃ Inv : Nat → Heap → Prop, it = .ref I ∧ Walks prog w A I fp wr n P St ∧ St 0 s₂.heap ∧ Inv 0 s₂.heap ∧
        (∀ i h h', Inv i h → KO (· ∈ wr) h h' → Inv i h') ∧
        (∀ i v h tk, i < n → P i v → Inv i h → St (i + 1) h →
          wpAny (model prog w) A (letOwnedTupleGo target (.ref I) v) (fun _ s' => wpAny (model prog w) A (assign target env v) (fun _ s₃ =>
            wpAny (model prog w) A (execs body env) (TurnEnd Q fun s₄ => ∃ h' tk', s₄ = Sh s₂ h' tk' ∧ Inv (i + 1) h' ∧ ∀ b ∈ fp, ∀ o, h.get? b = some o → h'.get? b = some o)
              (EIn prog w A env E) s₃) (EIn prog w A env E) s') (EIn prog w A env E) (Sh s₂ h tk)) ∧
        (∀ h tk, Inv n h → wpAny (model prog w) A (execs orelse env) Q (EIn prog w A env E) (Sh s₂ h tk))) E s₁) E s)
    (hs : ∀ x, foldedSetIterable iter env x = pure x := by intro _; rfl) :
    wpAny (model prog w) A (exec (.For target iter body orelse pos) env) Q E s := by
  refine wpAny_For (wpAny_mono h (fun xv s₁ h₁ => wpAny_mono h₁ (fun it s₂ h₂ => ?_) fun _ _ e => e) fun _ _ e => e) hs
  obtain ⟨I, fp, wr, n, P, St, Inv, rfl, W, st0, i0, hst, turn, done⟩ := h₂
  refine codeAny_forLoop_any (fun k s' => ∃ i h tk, s' = Sh s₂ h tk ∧ i ≤ n ∧ k = n + 1 - i ∧ St i h ∧ Inv i h) ?_ (n + 1) ⟨0, s₂.heap, s₂.toks, rfl, Nat.zero_le _, rfl, st0, i0⟩
  rintro k s' ⟨i, H, tk, rfl, hi, rfl, hSt, hInv⟩
  rcases Nat.lt_or_ge i n with hlt | hge
  · refine W.item i _ _ _ hlt hSt fun v h' tk' hp hst' hk => ?_
    refine wpAny_mono (turn i v h' tk' hlt hp (hst i H h' hInv hk) hst') (fun _ s₃ h₃ => wpAny_mono h₃ (fun _ s₄ h₄ => wpAny_mono h₄ (fun f s₅ h₅ => ?_) fun _ _ e => e) fun _ _ e => e) fun _ _ e => e
    have fin : (∃ h'' tk'', s₅ = Sh s₂ h'' tk'' ∧ Inv (i + 1) h'' ∧ ∀ b ∈ fp, ∀ o, h'.get? b = some o → h''.get? b = some o) →
        ∃ m, m < n + 1 - i ∧ ∃ j h tk, s₅ = Sh s₂ h tk ∧ j ≤ n ∧ m = n + 1 - j ∧ St j h ∧ Inv j h := by
      rintro ⟨h'', tk'', rfl, hI, hf⟩
      exact ⟨n + 1 - (i + 1), by omega, i + 1, h'', tk'', rfl, hlt, rfl, W.frame _ _ _ hst' hf, hI⟩
    cases f with
    | next => exact fin h₅
    | cont => exact fin h₅
    | brk => exact h₅
    | ret v => exact h₅
  · have : i = n := Nat.le_antisymm hi hge
    subst this
    refine W.done _ _ _ hSt fun h' tk' hk => ?_
    exact wpAny_mono (done h' tk' (hst i H h' hInv hk)) (fun _ _ q => q) fun _ _ q => q

theorem go_name {x : Str} {px : Pos} {it v : Value} {Q : Unit → Shared → Prop} (h : Q () s) : wpAny (model prog w) A (letOwnedTupleGo (.Name x px) it v) Q E s :=
  wpAny_of_eq (rfl : letOwnedTupleGo (.Name x px) it v = pure ()) h

/-- a for over a list that stands at l -/
theorem for_list {target iter : Expr} {body orelse : List Stmt} {pos : Pos} {Q : Flow → Shared → Prop} (hh : A.handled = none)
    (h : wpAny (model prog w) A (eval iter env) (fun xv s₁ => ∃ l, ∃ vs : List Value, ∃ Inv : Nat → Heap → Prop, xv = .ref l ∧ s₁.heap.IsList l vs.toArray ∧
        (∀ h', KA s₁.heap h' → Inv 0 h') ∧
        (∀ i h h', Inv i h → KO (· = s₁.heap.objs.size) h h' → Inv i h') ∧
        (∀ i v h tk, vs[i]? = some v → Inv i h → h.IsListIter s₁.heap.objs.size l (i + 1) → h.IsList l vs.toArray →
          wpAny (model prog w) A (letOwnedTupleGo target (.ref s₁.heap.objs.size) v) (fun _ s' => wpAny (model prog w) A (assign target env v) (fun _ s₃ =>
            wpAny (model prog w) A (execs body env) (TurnEnd Q fun s₄ => ∃ h' tk', s₄ = Sh s₁ h' tk' ∧ Inv (i + 1) h' ∧ (∀ o, h.get? s₁.heap.objs.size = some o → h'.get? s₁.heap.objs.size = some o) ∧ (∀ o, h.get? l = some o → h'.get? l = some o))
              (EIn prog w A env E) s₃) (EIn prog w A env E) s') (EIn prog w A env E) (Sh s₁ h tk)) ∧
        (∀ h tk, Inv vs.length h → wpAny (model prog w) A (execs orelse env) Q (EIn prog w A env E) (Sh s₁ h tk))) E s)
    (hs : ∀ x, foldedSetIterable iter env x = pure x := by intro _; rfl) :
    wpAny (model prog w) A (exec (.For target iter body orelse pos) env) Q E s := by
  refine for_walk (wpAny_mono h (fun xv s₁ h₁ => ?_) fun _ _ e => e) hs
  obtain ⟨l, vs, Inv, rfl, hl, i0, hst, turn, done⟩ := h₁
  refine wpAny_pyIter_list hl ?_
  have hlt : l < s₁.heap.objs.size := let ⟨_, ho, _⟩ := hl; Heap.lt_size ho
  have W := Walks.list (prog := prog) (w := w) hh s₁.heap.objs.size l (Nat.ne_of_lt hlt) vs.toArray
  refine ⟨_, _, _, _, _, _, Inv, rfl, W, ⟨⟨_, Heap.get?_push_size _ rfl, rfl, rfl⟩, hl.at fun o e => Heap.get?_push_of_some _ e⟩, i0 _ (KA.push _ _), ?_, ?_, ?_⟩
  · intro i h h' hi hk
    exact hst i h h' hi fun b o n e => hk b o (fun q => n (List.mem_singleton.mp q)) e
  · intro i v h tk hi hP hI hSt
    refine wpAny_mono (turn i v h tk (by simpa using hP) hI hSt.1 hSt.2) (fun _ s₃ h₃ => wpAny_mono h₃ (fun _ s₄ h₄ => wpAny_mono h₄ (fun f s₅ h₅ => ?_) fun _ _ e => e) fun _ _ e => e) fun _ _ e => e
    have fin : (∃ h' tk', s₅ = Sh s₁ h' tk' ∧ Inv (i + 1) h' ∧ (∀ o, h.get? s₁.heap.objs.size = some o → h'.get? s₁.heap.objs.size = some o) ∧ (∀ o, h.get? l = some o → h'.get? l = some o)) →
        ∃ h' tk', s₅ = Sh s₁ h' tk' ∧ Inv (i + 1) h' ∧ ∀ b ∈ [s₁.heap.objs.size, l], ∀ o, h.get? b = some o → h'.get? b = some o := by
      rintro ⟨h', tk', rfl, a, b, c⟩
      refine ⟨h', tk', rfl, a, fun p hp => ?_⟩
      rcases List.mem_cons.mp hp with rfl | hp
      · exact b
      · rw [List.mem_singleton.mp hp]; exact c
    cases f with
    | next => exact fin h₅
    | cont => exact fin h₅
    | brk => exact h₅
    | ret v => exact h₅
  · intro h tk hI
    rw [List.size_toArray] at hI
    exact done h tk hI

end
end Mine

namespace Mine

abbrev tests (ifs : List Expr) (env : Env) : Sem Bool :=
  forIn ifs true fun c r => if r = true then do let ok ← isTrue c env (eval c env); pure (ForInStep.yield ok) else pure (ForInStep.yield r)

section
variable {prog : Program} {w : World} {A : Around} {E : Value → Shared → Prop} {R : Result → Shared → Prop} {s : Shared} {env : Env}

theorem compLoop_any {elt target iter : Expr} {ifs : List Expr} {scope : Scope} {pos : Pos} {it acc : Value} {env : Env} (I : Nat → Shared → Prop)
    (turn : ∀ n s, I n s → wpAny (model prog w) A (pyNext it) (fun r s₁ => match r with
      | none => R (.ok .next) s₁
      | some v => wpAny (model prog w) A (letOwnedTupleGo target it v) (fun _ s₁' => wpAny (model prog w) A (assign target env v) (fun _ s₂ =>
          wpAny (model prog w) A (tests ifs env) (fun ok s₃ =>
            if ok = true then wpAny (model prog w) A (eval elt env) (fun x s₄ =>
              wpAny (model prog w) A (call (.builtin "list.append") [acc, x]) (fun _ s₅ => ∃ m, m < n ∧ I m s₅) (notedBy (model prog w) A env fun e s' => R (.error e) s') s₄) (notedBy (model prog w) A env fun e s' => R (.error e) s') s₃
            else ∃ m, m < n ∧ I m s₃) (notedBy (model prog w) A env fun e s' => R (.error e) s') s₂) (notedBy (model prog w) A env fun e s' => R (.error e) s') s₁') (notedBy (model prog w) A env fun e s' => R (.error e) s') s₁) (notedBy (model prog w) A env fun e s' => R (.error e) s') s)
    (n : Nat) (h : I n s) :
    codeAny (model prog w) A (.compLoop (.ListComp elt [⟨target, iter, ifs, 0⟩] scope pos) 0 it acc env) R s := by
  refine codeAny_loop rfl I (fun n s hI => ?_) n h
  show wpAny _ A ((compTurn (.ListComp elt [⟨target, iter, ifs, 0⟩] scope pos) 0 it acc env).onRaise (fun x => do noteFrame x env; theTreesLotGoes x)) _ _ s
  refine wpAny_noted ?_
  rw [compTurn_list]
  refine wpAny_bind (wpAny_standAt (wpAny_bind (wpAny_mono (turn n s hI) (fun r s₁ h₁ => ?_) fun _ _ h' => h')))
  cases r with
  | none => exact wpAny_pure h₁
  | some v =>
    refine wpAny_bind (wpAny_mono h₁ (fun _ s₁' h₁' => ?_) fun _ _ h' => h')
    refine wpAny_bind (wpAny_mono h₁' (fun _ s₂ h₂ => wpAny_bind (wpAny_mono h₂ (fun ok s₃ h₃ => ?_) fun _ _ h' => h')) fun _ _ h' => h')
    cases ok with
    | false => exact wpAny_pure ⟨rfl, h₃⟩
    | true =>
      exact wpAny_bind (wpAny_bind (wpAny_mono h₃ (fun x s₄ h₄ => wpAny_bind (wpAny_mono h₄ (fun _ s₅ h₅ => wpAny_pure (wpAny_pure ⟨rfl, h₅⟩)) fun _ _ h' => h')) fun _ _ h' => h'))

/-- one turn of a comprehension: D its list, C its frame -/
abbrev CompTurn (prog : Program) (w : World) (A : Around) (env : Env) (scope : Scope) (cl : List (Str × Addr)) (target : Expr) (ifs : List Expr) (elt : Expr) (I C : Addr)
    (Inv : List Value → Heap → Prop) (s₂ : Shared) (v : Value) (ys : List Value) (h : Heap) (E' : Value → Shared → Prop) (s' : Shared) : Prop :=
  wpAny (model prog w) A (letOwnedTupleGo target (.ref I) v) (fun _ s₁ => wpAny (model prog w) A (assign target (compEnvC scope cl C env) v) (fun _ s₃ =>
    wpAny (model prog w) A (tests ifs (compEnvC scope cl C env)) (fun ok s₄ =>
      if ok = true then wpAny (model prog w) A (eval elt (compEnvC scope cl C env)) (fun y s₅ => ∃ h' tk' m', s₅ = Sh s₂ h' tk' ∧ Inv (ys ++ [y]) h' ∧ h'.Ns C m' ∧ KO (· = C) h h') E' s₄
      else ∃ h' tk' m', s₄ = Sh s₂ h' tk' ∧ Inv ys h' ∧ h'.Ns C m' ∧ KO (· = C) h h') E' s₃) E' s₁) E' s'

theorem comp_core {elt target iter : Expr} {ifs : List Expr} {scope : Scope} {cl : List (Str × Addr)} {pos : Pos} {s₂ : Shared} {I : Addr} {fp wr : List Addr} {n : Nat} {P : Nat → Value → Prop}
    {St : Nat → Heap → Prop} (W : Walks prog w A I fp wr n P St) (hsz : n ≤ sizeLine) {RR : Value → Addr → Result → Shared → Prop}
    (hcell : ∀ y ∈ scope.names, y.2 ≠ .cell) (hkind : scope.kind = .function) (hst : St 0 s₂.heap) (hfp : ∀ b ∈ fp, b < s₂.heap.objs.size)
    (Inv : Nat → List Value → Heap → Prop) (i0 : ∀ h', KA s₂.heap h' → Inv 0 [] h')
    (hinv : ∀ i ys h h', Inv i ys h → KO (fun b => b ∈ wr ∨ b = s₂.heap.objs.size ∨ b = s₂.heap.objs.size + 1) h h' → Inv i ys h')
    (turn : ∀ i v ys h tk m E', i < n → P i v → Inv i ys h → St (i + 1) h → h.Ns (s₂.heap.objs.size + 1) m → h.PlainList s₂.heap.objs.size ys.toArray → KO (· ∈ wr) s₂.heap h →
      CompTurn prog w A env scope cl target ifs elt I (s₂.heap.objs.size + 1) (Inv (i + 1)) s₂ v ys h E' (Sh s₂ h tk))
    (hRR : ∀ h' tk m' ys, Inv n ys h' → h'.PlainList s₂.heap.objs.size ys.toArray → h'.Ns (s₂.heap.objs.size + 1) m' → KO (· ∈ wr) s₂.heap h' → RR (.ref s₂.heap.objs.size) (s₂.heap.objs.size + 1) (.ok .next) (Sh s₂ h' tk)) :
    wpAny (model prog w) A (newList []) (fun acc s₃ => wpAny (model prog w) A (newFunctionEnv scope env.globals cl [] env.qual none .none (some env)) (fun cenv s₄ =>
      codeAny (model prog w) A (.compStart (.ListComp elt [⟨target, iter, ifs, 0⟩] scope pos) 0 (.ref I) acc { cenv with scope := relabel scope env }) (RR acc cenv.locals) s₄) E s₃) E s₂ := by
  refine wpAny_newObj_type (wpAny_newFunctionEnv hcell (by intro y hy; simp at hy) (fun h₁ hns₁ hsb₁ => ?_) hkind)
  dsimp only at hns₁ hsb₁ ⊢
  generalize hH2 : s₂.heap.push { cls := .type "list", dict := none, data := .seq ([] : List Value).toArray } = H2 at hns₁ hsb₁ ⊢
  have hC : H2.objs.size = s₂.heap.objs.size + 1 := by rw [← hH2, Heap.size_push]
  have below : ∀ b, b < s₂.heap.objs.size → b ≠ s₂.heap.objs.size + 1 ∧ b ≠ s₂.heap.objs.size := fun b hb => ⟨Nat.ne_of_lt (Nat.lt_succ_of_lt hb), Nat.ne_of_lt hb⟩
  have hDC : s₂.heap.objs.size ≠ s₂.heap.objs.size + 1 := Nat.ne_of_lt (Nat.lt_succ_self _)
  rw [hC] at hns₁ hsb₁ ⊢
  have old : KA s₂.heap h₁ := fun b o e => hsb₁.extBut b o (below b (Heap.lt_size e)).1 (Heap.get?_push_of_some _ (hH2 ▸ Heap.get?_push_of_some _ e))
  have hacc : h₁.PlainList s₂.heap.objs.size ([] : List Value).toArray := ⟨_, hsb₁.extBut _ _ hDC (Heap.get?_push_of_some _ (hH2 ▸ Heap.get?_push_size _ rfl))⟩
  have hst₁ : St 0 h₁ := W.frame _ _ _ hst fun b _ o e => old b o e
  have loop : ∀ s₃ : Shared, s₃ = { s₂ with heap := h₁, toks := s₂.toks + ([] : List (Str × Value)).length } →
      codeAny (model prog w) A (.compLoop (.ListComp elt [⟨target, iter, ifs, 0⟩] scope pos) 0 (.ref I) (.ref s₂.heap.objs.size) (compEnvC scope cl (s₂.heap.objs.size + 1) env))
        (RR (.ref s₂.heap.objs.size) (s₂.heap.objs.size + 1)) s₃ := by
    rintro s₃ rfl
    refine compLoop_any (fun k s' => ∃ i h tk m ys, s' = Sh s₂ h tk ∧ i ≤ n ∧ k = n + 1 - i ∧ St i h ∧ Inv i ys h ∧ h.Ns (s₂.heap.objs.size + 1) m ∧ h.PlainList s₂.heap.objs.size ys.toArray ∧ ys.length ≤ i ∧ KO (· ∈ wr) s₂.heap h) ?_ (n + 1)
      ⟨0, h₁, _, _, [], rfl, Nat.zero_le _, rfl, hst₁, i0 _ old, hns₁, hacc, Nat.le_refl _, old.ko⟩
    rintro k s' ⟨i, H, tk, m, ys, rfl, hi, rfl, hSt, hInv, hNs, hPl, hlen, hKO⟩
    have nC : s₂.heap.objs.size + 1 ∉ wr := fun q => absurd (hfp _ (W.sub _ q)) (Nat.not_lt.mpr (Nat.le_succ _))
    have nD : s₂.heap.objs.size ∉ wr := fun q => absurd (hfp _ (W.sub _ q)) (Nat.lt_irrefl _)
    rcases Nat.lt_or_ge i n with hlt | hge
    · refine W.item i _ _ _ hlt hSt fun v h' tk' hp hst' hk => ?_
      have hNs' := hNs.at' fun o e => hk _ o nC e
      have hPl' := hPl.at fun o e => hk _ o nD e
      have hKO' : KO (· ∈ wr) s₂.heap h' := hKO.trans hk
      have hI' : Inv i ys h' := hinv i ys H h' hInv fun b o nb e => hk b o (fun q => nb (.inl q)) e
      refine wpAny_mono (turn i v ys h' tk' m _ hlt hp hI' hst' hNs' hPl' hKO') (fun _ s₃ h₃ => wpAny_mono h₃ (fun _ s₄ h₄ => wpAny_mono h₄ (fun ok s₅ h₅ => ?_) fun _ _ e => e) fun _ _ e => e) fun _ _ e => e
      have ko : ∀ h'', KO (· = s₂.heap.objs.size + 1) h' h'' → KO (· ∈ wr) s₂.heap h'' := fun h'' x b o nb e => x b o (below b (Heap.lt_size e)).1 (hKO' b o nb e)
      cases ok with
      | false =>
        obtain ⟨h'', tk'', m'', rfl, hI, hN, hK⟩ := h₅
        exact ⟨n + 1 - (i + 1), by omega, i + 1, h'', tk'', m'', ys, rfl, hlt, rfl, W.frame _ _ _ hst' (fun b hb o e => hK b o (below b (hfp b hb)).1 e), hI, hN,
          hPl'.at (fun o e => hK _ o hDC e), Nat.le_succ_of_le hlen, ko _ hK⟩
      | true =>
        rw [if_pos rfl] at h₅ ⊢
        refine wpAny_mono h₅ (fun y s₆ h₆ => ?_) fun _ _ e => e
        obtain ⟨h'', tk'', m'', rfl, hI, hN, hK⟩ := h₆
        have hPl'' : h''.PlainList s₂.heap.objs.size ys.toArray := hPl'.at (fun o e => hK _ o hDC e)
        refine wpAny_list_append_plain hPl'' (fun h3 hp3 hs3 => ?_) (by rw [List.size_toArray]; omega)
        refine ⟨n + 1 - (i + 1), by omega, i + 1, h3, tk'', m'', ys ++ [y], rfl, hlt, rfl, W.frame _ _ _ hst' (fun b hb o e => hs3.extBut b o (below b (hfp b hb)).2 (hK b o (below b (hfp b hb)).1 e)), ?_, ?_, ?_, ?_, ?_⟩
        · exact hinv _ _ h'' h3 hI fun b o nb e => hs3.extBut b o (fun q => nb (.inr (.inl q))) e
        · exact hN.sameBut hs3 (Ne.symm hDC)
        · simpa using hp3
        · simp; omega
        · exact fun b o nb e => hs3.extBut b o (below b (Heap.lt_size e)).2 (ko _ hK b o nb e)
    · have : i = n := Nat.le_antisymm hi hge
      subst this
      refine W.done _ _ _ hSt fun h' tk' hk => ?_
      exact hRR h' tk' m ys (hinv i ys H h' hInv fun b o nb e => hk b o (fun q => nb (.inl q)) e) (hPl.at fun o e => hk _ o nD e) (hNs.at' fun o e => hk _ o nC e) (hKO.trans hk)
  exact codeAny_compStart_list (loop _ rfl) (W.self 0 _ _ _ hst₁ (loop _ rfl))

/-- what a comprehension over a walk asks; Fin: what is to hold of its list behind it -/
def CompAsk (prog : Program) (w : World) (A : Around) (env : Env) (scope : Scope) (cl : List (Str × Addr)) (target : Expr) (ifs : List Expr) (elt : Expr) (it : Value) (s₂ : Shared)
    (Fin : (List Value → Heap → Prop) → List Addr → Prop) : Prop :=
  ∃ I fp wr n P St, ∃ Inv : Nat → List Value → Heap → Prop, it = .ref I ∧ Walks prog w A I fp wr n P St ∧ n ≤ sizeLine ∧ St 0 s₂.heap ∧ (∀ b ∈ fp, b < s₂.heap.objs.size) ∧ (∀ h', KA s₂.heap h' → Inv 0 [] h') ∧
    (∀ i ys h h', Inv i ys h → KO (fun b => b ∈ wr ∨ b = s₂.heap.objs.size ∨ b = s₂.heap.objs.size + 1 ∨ b = env.locals) h h' → Inv i ys h') ∧
    (∀ i v ys h tk m E', i < n → P i v → Inv i ys h → St (i + 1) h → h.Ns (s₂.heap.objs.size + 1) m → h.PlainList s₂.heap.objs.size ys.toArray → KO (· ∈ wr) s₂.heap h →
      CompTurn prog w A env scope cl target ifs elt I (s₂.heap.objs.size + 1) (Inv (i + 1)) s₂ v ys h E' (Sh s₂ h tk)) ∧ Fin (Inv n) wr

theorem comp_eval {elt target iter : Expr} {ifs : List Expr} {scope : Scope} {cl : List (Str × Addr)} {pos : Pos} {Q : Value → Shared → Prop}
    (hclos : closureFor scope env = pure cl) (hcell : ∀ y ∈ scope.names, y.2 ≠ .cell) (hkind : scope.kind = .function)
    (hnames : ∀ y ∈ scope.names, y.2 = .local → scope.names.lookup y.1 = some .local)
    (h : wpAny (model prog w) A (eval iter env) (fun xv s₁ => wpAny (model prog w) A (pyIter xv) (fun it s₂ => CompAsk prog w A env scope cl target ifs elt it s₂ fun Inv wr =>
      ∀ h' tk ys, Inv ys h' → h'.PlainList s₂.heap.objs.size ys.toArray → KO (· ∈ wr) s₂.heap h' → Q (.ref s₂.heap.objs.size) (Sh s₂ h' tk)) E s₁) E s)
    (hs : ∀ x, foldedSetIterable iter env x = pure x := by intro _; rfl) :
    wpAny (model prog w) A (eval (.ListComp elt [⟨target, iter, ifs, 0⟩] scope pos) env) Q E s := by
  rw [eval_ListComp]
  refine wpAny_comprehension_free (use := none) rfl hs hclos hkind hnames (wpAny_mono h (fun xv s₁ h₁ => wpAny_mono h₁ (fun it s₂ h₂ => ?_) fun _ _ e => e) fun _ _ e => e)
  obtain ⟨I, fp, wr, n, P, St, Inv, rfl, W, hsz, hst, hfp, i0, hinv, turn, fin⟩ := h₂
  refine comp_core (RR := fun acc C => compPost (model prog w) A E none Q acc C) W hsz hcell hkind hst hfp Inv i0 (fun i ys h h' a b => hinv i ys h h' a fun p o np e => b p o (fun q => np (q.elim .inl fun q => q.elim (fun q => .inr (.inl q)) fun q => .inr (.inr (.inl q)))) e) turn ?_
  intro h' tk m' ys hI hP hN hK
  refine ⟨m', hN, fun h'' hs'' => fin h'' tk ys (hinv _ _ _ _ hI fun b o nb e => hs''.extBut b o (fun q => nb (.inr (.inr (.inl q)))) e) (hP.extBut hs''.extBut (Nat.ne_of_lt (Nat.lt_succ_self _))) fun b o nb e => ?_⟩
  exact hs''.extBut b o (Nat.ne_of_lt (Nat.lt_succ_of_lt (Heap.lt_size e))) (hK b o nb e)

theorem comp_assign {elt target iter : Expr} {ifs : List Expr} {scope : Scope} {cl : List (Str × Addr)} {y : Str} {py pos spos : Pos} {Q : Flow → Shared → Prop}
    (hsw : swapsWith (.ListComp elt [⟨target, iter, ifs, 0⟩] scope pos) (some (.Name y py)) spos.line env = pure true)
    (hclos : closureFor scope env = pure cl) (hcell : ∀ z ∈ scope.names, z.2 ≠ .cell) (hkind : scope.kind = .function)
    (hnames : ∀ z ∈ scope.names, z.2 = .local → scope.names.lookup z.1 = some .local)
    (hy : env.kindOf y = some .local) (hp : (env.scope.kind == .class || (env.scope.kind == .module && env.locals != env.globals)) = false)
    (h : wpAny (model prog w) A (eval iter env) (fun xv s₁ => wpAny (model prog w) A (pyIter xv) (fun it s₂ => CompAsk prog w A env scope cl target ifs elt it s₂ fun Inv wr =>
      ∃ m, env.locals ∉ wr ∧ s₂.heap.Ns env.locals m ∧
      ∀ h' tk ys, Inv ys h' → h'.PlainList s₂.heap.objs.size ys.toArray → h'.Ns env.locals (fun z => if z = y then some (.ref s₂.heap.objs.size) else m z) → KO (fun b => b ∈ wr ∨ b = env.locals) s₂.heap h' → Q .next (Sh s₂ h' tk)) E s₁) E s)
    (hs : ∀ x, foldedSetIterable iter env x = pure x := by intro _; rfl) :
    wpAny (model prog w) A (exec (.Assign [.Name y py] (.ListComp elt [⟨target, iter, ifs, 0⟩] scope pos) spos) env) Q E s := by
  rw [exec_Assign_Name_used _ _ _ _ hsw]
  refine wpAny_bind (wpAny_standAt (wpAny_bind ?_))
  show wpAny _ A (do let _ ← comprehension (.ListComp elt [⟨target, iter, ifs, 0⟩] scope pos) scope env _ (newList []) false (eval iter env) (some (assign (.Name y py) env))) _ _ s
  refine wpAny_bind (wpAny_mono (wpAny_comprehension_free (use := some (assign (.Name y py) env)) (Q := fun _ s' => Q .next s') rfl hs hclos hkind hnames
    (wpAny_mono h (fun xv s₁ h₁ => wpAny_mono h₁ (fun it s₂ h₂ => ?_) fun _ _ e => e) fun _ _ e => e)) (fun _ s' hq => wpAny_pure (wpAny_pure hq)) fun _ _ e => e)
  obtain ⟨I, fp, wr, n, P, St, Inv, rfl, W, hsz, hst, hfp, i0, hinv, turn, m, nL, hm, fin⟩ := h₂
  refine comp_core (RR := fun acc C => compPost (model prog w) A E (some (assign (.Name y py) env)) (fun _ s' => Q .next s') acc C) W hsz hcell hkind hst hfp Inv i0 (fun i ys h h' a b => hinv i ys h h' a fun p o np e => b p o (fun q => np (q.elim .inl fun q => q.elim (fun q => .inr (.inl q)) fun q => .inr (.inr (.inl q)))) e) turn ?_
  intro h' tk m' ys hI hP hN hK
  have hLlt : env.locals < s₂.heap.objs.size := hm.lt
  show wpAny _ A (assign (.Name y py) env (.ref s₂.heap.objs.size)) _ _ _
  refine wpAny_assign_Name (wpAny_storeName_local hy (hm.at' fun o e => hK _ o nL e) (fun h₂ hn₂ hs₂ => ?_) hp)
  refine ⟨m', hN.sameBut hs₂ (Nat.ne_of_gt (Nat.lt_succ_of_lt hLlt)), fun h₃ hs₃ => ?_⟩
  refine fin h₃ _ ys ?_ ((hP.extBut hs₂.extBut (Nat.ne_of_gt hLlt)).extBut hs₃.extBut (Nat.ne_of_lt (Nat.lt_succ_self _))) (hn₂.sameBut hs₃ (Nat.ne_of_lt (Nat.lt_succ_of_lt hLlt))) fun b o nb e => ?_
  · exact hinv _ _ _ _ hI fun b o nb e => hs₃.extBut b o (fun q => nb (.inr (.inr (.inl q)))) (hs₂.extBut b o (fun q => nb (.inr (.inr (.inr q)))) e)
  · exact hs₃.extBut b o (Nat.ne_of_lt (Nat.lt_succ_of_lt (Heap.lt_size e))) (hs₂.extBut b o (fun q => nb (.inr q)) (hK b o (fun q => nb (.inl q)) e))
end
end Mine

namespace Mine

def strOf : Value → Option Str
  | .str x _ => some x
  | _ => none
def Strs (vs : List Value) (xs : List Str) : Prop := vs.map strOf = xs.map some
theorem strOf_some {v : Value} {x : Str} (h : strOf v = some x) : ∃ t, v = .str x t := by
  cases v <;> simp [strOf] at h
  exact ⟨_, by rw [h]⟩
theorem Strs.length {vs : List Value} {xs : List Str} (h : Strs vs xs) : vs.length = xs.length := by
  simpa using congrArg List.length h
theorem Strs.get {vs : List Value} {xs : List Str} (h : Strs vs xs) {i : Nat} {x : Str} (hx : xs[i]? = some x) : ∃ t, vs[i]? = some (.str x t) := by
  have := congrArg (fun l => l[i]?) h
  simp only [List.getElem?_map, hx, Option.map_some] at this
  obtain ⟨v, hv, e⟩ := Option.map_eq_some_iff.mp this
  obtain ⟨t, rfl⟩ := strOf_some e
  exact ⟨t, hv⟩
theorem Strs.get' {vs : List Value} {xs : List Str} (h : Strs vs xs) {i : Nat} {v : Value} (hv : vs[i]? = some v) : ∃ x t, xs[i]? = some x ∧ v = .str x t := by
  have := congrArg (fun l => l[i]?) h
  simp only [List.getElem?_map, hv, Option.map_some] at this
  obtain ⟨x, hx, e⟩ := Option.map_eq_some_iff.mp this.symm
  obtain ⟨t, rfl⟩ := strOf_some e.symm
  exact ⟨x, t, hx, rfl⟩
theorem Strs.mem {vs : List Value} {xs : List Str} (h : Strs vs xs) {v : Value} (hv : v ∈ vs) : ∃ x t, x ∈ xs ∧ v = .str x t := by
  obtain ⟨i, hi, e⟩ := List.mem_iff_getElem.mp hv
  obtain ⟨x, t, hx, e'⟩ := h.get' (i := i) (v := v) (by rw [List.getElem?_eq_getElem hi, e])
  exact ⟨x, t, List.mem_of_getElem? hx, e'⟩
theorem Strs.nil : Strs [] [] := rfl
theorem Strs.snoc {vs : List Value} {xs : List Str} (h : Strs vs xs) (x : Str) (t : Tok) : Strs (vs ++ [.str x t]) (xs ++ [x]) := by
  unfold Strs at *; simp [h, strOf]
theorem Strs.drop {vs : List Value} {xs : List Str} (h : Strs vs xs) (n : Nat) : Strs (vs.drop n) (xs.drop n) := by
  unfold Strs at *; rw [List.map_drop, h, List.map_drop]
theorem Strs.take {vs : List Value} {xs : List Str} (h : Strs vs xs) (n : Nat) : Strs (vs.take n) (xs.take n) := by
  unfold Strs at *; rw [List.map_take, h, List.map_take]
theorem Strs.any {vs : List Value} {xs : List Str} (h : Strs vs xs) (x : Str) : vs.any (fun v => strOf v == some x) = decide (x ∈ xs) := by
  have e : vs.any (fun v => strOf v == some x) = (vs.map strOf).any (· == some x) := by rw [List.any_map]; rfl
  rw [e, h, List.any_map, Bool.eq_iff_iff]
  simp

/-- a list of texts stands at a -/
def RowAt (h : Heap) (a : Addr) (xs : List Str) : Prop := ∃ vs : List Value, h.PlainList a vs.toArray ∧ Strs vs xs
theorem RowAt.at {h h' : Heap} {a : Addr} {xs : List Str} (x : RowAt h a xs) (e : ∀ o, h.get? a = some o → h'.get? a = some o) : RowAt h' a xs := let ⟨vs, p, q⟩ := x; ⟨vs, p.at e, q⟩
theorem RowAt.ko {W : Addr → Prop} {h h' : Heap} {a : Addr} {xs : List Str} (x : RowAt h a xs) (k : KO W h h') (n : ¬ W a) : RowAt h' a xs := x.at fun o e => k a o n e
theorem RowAt.lt {h : Heap} {a : Addr} {xs : List Str} (x : RowAt h a xs) : a < h.objs.size := let ⟨_, ⟨_, p⟩, _⟩ := x; Heap.lt_size p
theorem RowAt.ne_ns {h : Heap} {a L : Addr} {xs : List Str} {m : Str → Option Value} (x : RowAt h a xs) (n : h.Ns L m) : a ≠ L := by
  rintro rfl
  obtain ⟨vs, ⟨k, p⟩, _⟩ := x
  obtain ⟨o, es, ep, ho, hd, _⟩ := n
  rw [p] at ho; cases ho; cases hd

abbrev up (m : Str → Option Value) (x : Str) (v : Value) : Str → Option Value := fun y => if y = x then some v else m y

section
variable {prog : Program} {w : World} {A : Around} {E : Value → Shared → Prop} {s : Shared} {env : Env}

theorem nm {x : Str} {pos : Pos} {v : Value} {m : Str → Option Value} {Q : Value → Shared → Prop} (hk : env.scope.kind = .function) (hl : env.kindOf x = some .local) (hn : s.heap.Ns env.locals m)
    (hv : m x = some v) (h : Q v s) (hd : (x == ("__debug__" : Str)) = false := by decide) : wpAny (model prog w) A (eval (.Name x pos) env) Q E s := wpAny_Name (wpAny_loadName_local hk hl hn hv h) hd

theorem st {x : Str} {v : Value} {m : Str → Option Value} {Q : Unit → Shared → Prop} (hk : env.scope.kind = .function) (hl : env.kindOf x = some .local) (hn : s.heap.Ns env.locals m)
    (h : ∀ h', h'.Ns env.locals (up m x v) → KO (· = env.locals) s.heap h' → Q () (Sh s h' (s.toks + 1))) : wpAny (model prog w) A (storeName env x v) Q E s :=
  wpAny_storeName_local hl hn (fun h' hn' hs => h h' hn' (ko_same hs)) (by rw [hk]; rfl)

theorem sub_int {value : Expr} {k : Int} {kk : Nat} {kpos pos : Pos} {Q : Value → Shared → Prop}
    (h : wpAny (model prog w) A (eval value env) (fun o s₁ => ∃ l items x, o = .ref l ∧ s₁.heap.IsList l items ∧ 0 ≤ k ∧ k < 2 ^ 63 ∧ items[k.toNat]? = some x ∧ Q x { s₁ with toks := s₁.toks + 1 }) E s)
    (hs : ∀ o i, subscripted (.Constant (.int k) kk kpos) false o i = operate [o, i] (getItem o i) := by intro _ _; rfl) :
    wpAny (model prog w) A (eval (.Subscript value (.Constant (.int k) kk kpos) pos) env) Q E s := by
  refine Subscript_ (wpAny_mono h (fun o s₁ h₁ => ?_) fun _ _ e => e)
  obtain ⟨l, items, x, rfl, hl, h0, h1, hx, hq⟩ := h₁
  refine wpAny_Constant_int ?_
  exact tail_any (s := { s₁ with toks := s₁.toks + 1 }) hl.typeIs slot_list_getitem.lookup (wpAny_getItem_list (s := { s₁ with toks := s₁.toks + 1 }) hl h0 h1 hx hq) (hs _ _)

theorem in_strs {l : Addr} {vs : List Value} {xs : List Str} {x : Str} {t : Tok} {Q : Value → Shared → Prop} (hl : s.heap.IsList l vs.toArray) (hx : Strs vs xs) (h : Q (.bool (decide (x ∈ xs))) s) :
    wpAny (model prog w) A (compareOp .In (.str x t) (.ref l)) Q E s := by
  refine SeqInW.in_listW (fun v => strOf v == some x) (fun y hy => ?_) hl ?_
  · obtain ⟨z, u, _, rfl⟩ := hx.mem (by simpa using hy)
    have := eqGives_str z x u t
    simpa [strOf] using this
  · rw [List.any_toArray, hx.any]; exact h
theorem notin_strs {l : Addr} {vs : List Value} {xs : List Str} {x : Str} {t : Tok} {Q : Value → Shared → Prop} (hl : s.heap.IsList l vs.toArray) (hx : Strs vs xs) (h : Q (.bool (!decide (x ∈ xs))) s) :
    wpAny (model prog w) A (compareOp .NotIn (.str x t) (.ref l)) Q E s := by
  refine SeqInW.notIn_listW (fun v => strOf v == some x) (fun y hy => ?_) hl ?_
  · obtain ⟨z, u, _, rfl⟩ := hx.mem (by simpa using hy)
    have := eqGives_str z x u t
    simpa [strOf] using this
  · rw [List.any_toArray, hx.any]; exact h
end
end Mine

namespace Mine

def fnBody : Stmt → List Stmt
  | .FunctionDef _ _ b _ _ _ _ _ _ _ => b
  | _ => []
def fnScope : Stmt → Scope
  | .FunctionDef _ _ _ _ _ _ sc _ _ _ => sc
  | _ => { kind := .function, names := [], isGenerator := false, isCoroutine := false, more := [] }
def nthS (l : List Stmt) (n : Nat) : Stmt := l.getD n (.Pass default)
def loopBody : Stmt → List Stmt
  | .While _ b _ _ => b
  | .For _ _ b _ _ => b
  | .If _ b _ _ => b
  | _ => []
def topS (n : Nat) : Stmt := nthS PySem.Challenge.pw_oc0008_01.main.body n
def mergeBody : List Stmt := fnBody (topS 1)
def mergeScope : Scope := fnScope (topS 1)
def mergeTurn : List Stmt := loopBody (nthS mergeBody 1)
def mergeSearch : Stmt := nthS mergeTurn 2
def mergeInner : Stmt := nthS (loopBody mergeSearch) 1

section
variable {prog : Program} {w : World} {A : Around} {E : Value → Shared → Prop} {s : Shared} {env : Env}

theorem slice1 {value : Expr} {kk : Nat} {kpos p pos : Pos} {Q : Value → Shared → Prop}
    (h : wpAny (model prog w) A (eval value env) (fun o s₁ => ∃ l, ∃ vs : List Value, o = .ref l ∧ s₁.heap.IsList l vs.toArray ∧ vs.length ≤ sizeLine ∧
      ∀ h', h'.PlainList (s₁.heap.objs.size + 1) (vs.drop 1).toArray → KA s₁.heap h' → Q (.ref (s₁.heap.objs.size + 1)) (Sh s₁ h' (s₁.toks + 1))) E s)
    (hv : ∀ (o r : Value), letTemporaryGo value o r = pure () := by intro _ _; rfl) :
    wpAny (model prog w) A (eval (.Subscript value (.Slice (some (.Constant (.int 1) kk kpos)) none none p) pos) env) Q E s := by
  refine wpAny_Subscript_list_slice (wpAny_mono h (fun o s₁ h₁ => ?_) fun _ _ e => e) hv
  obtain ⟨l, vs, rfl, hl, hsz, hq⟩ := h₁
  rw [evalPart_some, evalPart_none]
  refine wpAny_Constant_int (wpAny_pure ⟨l, vs.toArray, some 1, none, rfl, hl, by simpa using hsz, .int _ _, .none, ?_⟩)
  have e : slicePick vs.toArray (some 1) none none = (vs.drop 1).toArray := slicePick_from' vs.toArray 1
  rw [e]
  refine hq _ ⟨0, ?_⟩ ((KA.push _ _).trans (KA.push _ _))
  have := Heap.get?_push_size (s₁.heap.push { cls := .type "slice", data := .fields #[.int 1 s₁.toks, .none, .none] }) (o := { cls := .type "list", data := .seq (vs.drop 1).toArray }) rfl
  rw [Heap.size_push] at this
  exact this

theorem merge_inner {L q : Addr} {qs : List Addr} {c : Addr → List Str} {m : Str → Option Value} {x : Str} {t : Tok} {Q : Flow → Shared → Prop}
    (hh : A.handled = none) (hsc : env.scope = mergeScope) (hL : env.locals = L)
    (hn : s.heap.Ns L m) (hq : m "sequences" = some (.ref q)) (hc : m "candidate" = some (.str x t)) (hl : s.heap.IsList q (qs.map Value.ref).toArray)
    (hr : ∀ a ∈ qs, RowAt s.heap a (c a)) (hsz : ∀ a ∈ qs, (c a).length ≤ 100)
    (yes : ∀ h' tk m', (∃ a ∈ qs, x ∈ (c a).tail) → KO (· = L) s.heap h' → h'.Ns L m' → m' "candidate" = some .none → (∀ y : Str, y ≠ "s2" → y ≠ "candidate" → m' y = m y) → Q .next (Sh s h' tk))
    (no : ∀ h' tk m', (∀ a ∈ qs, x ∉ (c a).tail) → KO (· = L) s.heap h' → h'.Ns L m' → (∀ y : Str, y ≠ "s2" → m' y = m y) → Q .brk (Sh s h' tk)) :
    wpAny (model prog w) A (exec mergeInner env) Q E s := by
  subst hL
  have hk : env.scope.kind = .function := by rw [hsc]; rfl
  have kd : ∀ y k, mergeScope.names.lookup y = some k → env.kindOf y = some k := fun y k e => by unfold Env.kindOf; rw [hsc]; exact e
  have hLlt : env.locals < s.heap.objs.size := hn.lt
  refine for_list hh (nm hk (kd _ _ rfl) hn hq ?_)
  refine ⟨q, qs.map Value.ref, fun i h => KO (· = env.locals) s.heap h ∧ (∀ a ∈ qs.take i, x ∉ (c a).tail) ∧ ∃ m', h.Ns env.locals m' ∧ ∀ y : Str, y ≠ "s2" → m' y = m y, rfl, hl, ?_, ?_, ?_, ?_⟩
  · intro h' k
    exact ⟨k.ko, by simp, m, hn.keeps k, fun _ _ => rfl⟩
  · rintro i h h' ⟨a, b, m', e, f⟩ k
    exact ⟨fun p o np e' => k p o (Nat.ne_of_lt (Heap.lt_size e')) (a p o np e'), b, m', e.at' fun o e' => k _ o (Nat.ne_of_lt hLlt) e', f⟩
  · rintro i v h tk hv ⟨k, hno, m', hn', hm'⟩ hit hl'
    refine go_name (wpAny_assign_Name (st (s := Sh s h tk) hk (kd _ _ rfl) hn' fun h₁ hn₁ k₁ => ?_))
    simp only [List.getElem?_map] at hv
    obtain ⟨a, ha, rfl⟩ := Option.map_eq_some_iff.mp hv
    have hmem : a ∈ qs := List.mem_of_getElem? ha
    have hrow : RowAt h₁ a (c a) := ((hr a hmem).ko k ((hr a hmem).ne_ns hn)).ko k₁ ((hr a hmem).ne_ns hn)
    obtain ⟨vs, hp, hs⟩ := hrow
    have hlen : vs.length ≤ 100 := by rw [hs.length]; exact hsz a hmem
    refine wpAny_execs_cons (wpAny_If (wpAny_isTrue_Compare1 (nm (s := Sh s h₁ (tk + 1)) hk (kd _ _ rfl) hn₁ (v := .str x t) ?_ ?_) rfl))
    · rw [up, if_neg (by decide), hm' _ (by decide)]; exact hc
    refine slice1 (nm (s := Sh s h₁ (tk + 1)) hk (kd _ _ rfl) hn₁ (v := .ref a) (by rw [up, if_pos rfl]) ⟨a, vs, rfl, hp.isList, ?_, fun h₂ hp₂ k₂ => ?_⟩)
    · rw [show sizeLine = 2 ^ 24 from rfl]; omega
    refine in_strs (s := Sh s h₂ (tk + 1 + 1)) hp₂.isList (hs.drop 1) (wpAny_truthy_bool ?_)
    have kk : KO (· = env.locals) h h₂ := k₁.trans k₂.ko
    by_cases hx : x ∈ (c a).drop 1
    · simp only [hx, decide_true, if_true]
      refine wpAny_execs_cons (wpAny_Assign_Name (wpAny_Constant_none (st (s := Sh s h₂ (tk + 1 + 1)) hk (kd _ _ rfl) (hn₁.keeps k₂) fun h₃ hn₃ k₃ => ?_)))
      refine wpAny_execs_cons (wpAny_Break ?_)
      refine yes h₃ _ _ ⟨a, hmem, by rw [← List.drop_one]; exact hx⟩ ((k.trans kk).trans k₃) hn₃ (by rw [up, if_pos rfl]) fun y y1 y2 => ?_
      rw [up, if_neg y2, up, if_neg y1, hm' y y1]
    · simp only [hx, decide_false, Bool.false_eq_true, if_false]
      refine wpAny_execs_nil (wpAny_execs_nil ⟨h₂, _, rfl, ⟨k.trans kk, ?_, _, hn₁.keeps k₂, fun y y1 => ?_⟩, ?_, ?_⟩)
      · intro b hb
        rw [List.take_add_one, ha] at hb
        rcases List.mem_append.mp hb with hb | hb
        · exact hno b hb
        · simp at hb; subst hb; rw [← List.drop_one]; exact hx
      · rw [up, if_neg y1, hm' y y1]
      · exact fun o e => kk _ o (Nat.ne_of_gt hLlt) e
      · intro o e
        refine kk _ o ?_ e
        obtain ⟨o', ho', _, n', hd'⟩ := hl
        rintro rfl
        obtain ⟨o2, _, _, ho2, hd2, _⟩ := hn
        rw [ho'] at ho2; cases ho2; rw [hd'] at hd2; cases hd2
  · rintro h tk ⟨k, hno, m', hn', hm'⟩
    refine wpAny_execs_cons (wpAny_Break ?_)
    exact no h tk m' (fun a ha => hno a (by rw [List.length_map, List.take_length]; exact ha)) k hn' hm'
end
end Mine

namespace Mine

def strip {α : Type} [DecidableEq α] (x : α) (l : List α) : List α := if l.head? = some x then l.tail else l
def neB {α : Type} (l : List α) : Bool := !l.isEmpty

/-- the C3 merge as a relation: rows in, the order (or none: refused) out -/
inductive Merges {α : Type} [DecidableEq α] : List (List α) → Option (List α) → Prop
  | done {rows} : rows.filter neB = [] → Merges rows (some [])
  | bad {rows} : rows.filter neB ≠ [] → (∀ r ∈ rows.filter neB, ∀ x, r.head? = some x → ∃ b ∈ rows.filter neB, x ∈ b.tail) → Merges rows none
  | step {rows pre r post x o} : rows.filter neB = pre ++ r :: post → r.head? = some x → (∀ b ∈ rows.filter neB, x ∉ b.tail) →
      (∀ p ∈ pre, ∀ y, p.head? = some y → ∃ b ∈ rows.filter neB, y ∈ b.tail) → Merges ((rows.filter neB).map (strip x)) o → Merges rows (o.map (x :: ·))

section
variable {prog : Program} {w : World} {A : Around} {E : Value → Shared → Prop} {s : Shared} {env : Env}

theorem list_ne_ns {h : Heap} {q L : Addr} {items : Array Value} {m : Str → Option Value} (hl : h.IsList q items) (hn : h.Ns L m) : q ≠ L := by
  obtain ⟨o', ho', _, n', hd'⟩ := hl
  rintro rfl
  obtain ⟨o2, _, _, ho2, hd2, _⟩ := hn
  rw [ho'] at ho2; cases ho2; rw [hd'] at hd2; cases hd2
theorem IsList.ko {W : Addr → Prop} {h h' : Heap} {q : Addr} {items : Array Value} (hl : h.IsList q items) (k : KO W h h') (n : ¬ W q) : h'.IsList q items := hl.at fun o e => k q o n e

theorem merge_search {L q : Addr} {qs : List Addr} {c : Addr → List Str} {m : Str → Option Value} {Q : Flow → Shared → Prop}
    (hh : A.handled = none) (hsc : env.scope = mergeScope) (hL : env.locals = L)
    (hn : s.heap.Ns L m) (hq : m "sequences" = some (.ref q)) (hl : s.heap.IsList q (qs.map Value.ref).toArray) (hne : qs ≠ [])
    (hr : ∀ a ∈ qs, RowAt s.heap a (c a)) (hsz : ∀ a ∈ qs, (c a).length ≤ 100) (hnon : ∀ a ∈ qs, c a ≠ [])
    (yes : ∀ h' tk m' pre a post x t, qs = pre ++ a :: post → (c a).head? = some x → (∀ b ∈ qs, x ∉ (c b).tail) → (∀ p ∈ pre, ∀ y, (c p).head? = some y → ∃ b ∈ qs, y ∈ (c b).tail) →
      KO (· = L) s.heap h' → h'.Ns L m' → m' "candidate" = some (.str x t) → (∀ y : Str, y ≠ "s1" → y ≠ "s2" → y ≠ "candidate" → m' y = m y) → Q .next (Sh s h' tk))
    (no : ∀ h' tk m', (∀ p ∈ qs, ∀ y, (c p).head? = some y → ∃ b ∈ qs, y ∈ (c b).tail) → KO (· = L) s.heap h' → h'.Ns L m' → m' "candidate" = some .none →
      (∀ y : Str, y ≠ "s1" → y ≠ "s2" → y ≠ "candidate" → m' y = m y) → Q .next (Sh s h' tk)) :
    wpAny (model prog w) A (exec mergeSearch env) Q E s := by
  subst hL
  have hk : env.scope.kind = .function := by rw [hsc]; rfl
  have kd : ∀ y k, mergeScope.names.lookup y = some k → env.kindOf y = some k := fun y k e => by unfold Env.kindOf; rw [hsc]; exact e
  have hLlt : env.locals < s.heap.objs.size := hn.lt
  refine for_list hh (nm hk (kd _ _ rfl) hn hq ?_)
  refine ⟨q, qs.map Value.ref, fun i h => KO (· = env.locals) s.heap h ∧ (∀ p ∈ qs.take i, ∀ y, (c p).head? = some y → ∃ b ∈ qs, y ∈ (c b).tail) ∧
    ∃ m', h.Ns env.locals m' ∧ (0 < i → m' "candidate" = some .none) ∧ ∀ y : Str, y ≠ "s1" → y ≠ "s2" → y ≠ "candidate" → m' y = m y, rfl, hl, ?_, ?_, ?_, ?_⟩
  · intro h' k
    exact ⟨k.ko, by simp, m, hn.keeps k, fun h => absurd h (Nat.lt_irrefl _), fun _ _ _ _ => rfl⟩
  · rintro i h h' ⟨a, b, m', e, f⟩ k
    exact ⟨fun p o np e' => k p o (Nat.ne_of_lt (Heap.lt_size e')) (a p o np e'), b, m', e.at' fun o e' => k _ o (Nat.ne_of_lt hLlt) e', f⟩
  · rintro i v h tk hv ⟨k, hno, m', hn', _, hm'⟩ hit hl'
    refine go_name (wpAny_assign_Name (st (s := Sh s h tk) hk (kd _ _ rfl) hn' fun h₁ hn₁ k₁ => ?_))
    simp only [List.getElem?_map] at hv
    obtain ⟨a, ha, rfl⟩ := Option.map_eq_some_iff.mp hv
    have hmem : a ∈ qs := List.mem_of_getElem? ha
    have rowsAt : ∀ b ∈ qs, RowAt h₁ b (c b) := fun b hb => ((hr b hb).ko k ((hr b hb).ne_ns hn)).ko k₁ ((hr b hb).ne_ns hn)
    obtain ⟨vs, hp, hs⟩ := rowsAt a hmem
    obtain ⟨x, rest, hcx⟩ : ∃ x rest, c a = x :: rest := by
      cases e : c a with
      | nil => exact absurd e (hnon a hmem)
      | cons x r => exact ⟨x, r, rfl⟩
    obtain ⟨t, hvt⟩ := hs.get (i := 0) (x := x) (by rw [hcx]; rfl)
    refine wpAny_execs_cons (wpAny_Assign_Name (sub_int (nm (s := Sh s h₁ (tk + 1)) hk (kd _ _ rfl) hn₁ (v := .ref a) (by rw [up, if_pos rfl]) ⟨a, vs.toArray, .str x t, rfl, hp.isList, by decide, by decide, by simpa using hvt, ?_⟩)))
    refine st (s := Sh s h₁ (tk + 1 + 1)) hk (kd _ _ rfl) hn₁ fun h₂ hn₂ k₂ => ?_
    have k02 : KO (· = env.locals) s.heap h₂ := (k.trans k₁).trans k₂
    have hlq : h₂.IsList q (qs.map Value.ref).toArray := IsList.ko hl k02 (list_ne_ns hl hn)
    refine wpAny_execs_cons ?_
    refine merge_inner (s := Sh s h₂ (tk + 1 + 1 + 1)) (x := x) (t := t) (c := c) hh hsc rfl hn₂ ?_ ?_ hlq (fun b hb => (rowsAt b hb).ko k₂ ((hr b hb).ne_ns hn)) hsz ?_ ?_
    · rw [up, if_neg (by decide), up, if_neg (by decide), hm' _ (by decide) (by decide) (by decide)]; exact hq
    · rw [up, if_pos rfl]
    · intro h₃ tk₃ m₃ hex k₃ hn₃ hc₃ hm₃
      refine wpAny_execs_nil ⟨h₃, tk₃, rfl, ⟨k02.trans k₃, ?_, m₃, hn₃, fun _ => hc₃, fun y y1 y2 y3 => ?_⟩, ?_, ?_⟩
      · intro p hp y hy
        rw [List.take_add_one, ha] at hp
        rcases List.mem_append.mp hp with hp | hp
        · exact hno p hp y hy
        · simp at hp; subst hp
          rw [hcx] at hy; cases hy
          exact hex
      · rw [hm₃ y y2 y3, up, if_neg y3, up, if_neg y1, hm' y y1 y2 y3]
      · exact fun o e => ((k₁.trans k₂).trans k₃) _ o (Nat.ne_of_gt hLlt) e
      · exact fun o e => ((k₁.trans k₂).trans k₃) _ o (list_ne_ns hl hn) e
    · intro h₃ tk₃ m₃ hall k₃ hn₃ hm₃
      have hsplit : qs = qs.take i ++ a :: qs.drop (i + 1) := by
        have hi : i < qs.length := (List.getElem?_eq_some_iff.mp ha).1
        have e2 : qs[i] = a := (List.getElem?_eq_some_iff.mp ha).2
        rw [← e2, ← List.drop_eq_getElem_cons hi, List.take_append_drop]
      refine yes h₃ tk₃ m₃ _ a _ x t hsplit (by rw [hcx]; rfl) hall hno (k02.trans k₃) hn₃ ?_ fun y y1 y2 y3 => ?_
      · rw [hm₃ _ (by decide), up, if_pos rfl]
      · rw [hm₃ y y2, up, if_neg y3, up, if_neg y1, hm' y y1 y2 y3]
  · rintro h tk ⟨k, hno, m', hn', hc', hm'⟩
    rw [List.length_map, List.take_length] at hno
    rw [List.length_map] at hc'
    exact wpAny_execs_nil (no h tk m' hno k hn' (hc' (List.length_pos_iff.mpr hne)) hm')

theorem merge_filter {L q : Addr} {qs : List Addr} {c : Addr → List Str} {m : Str → Option Value} {Q : Flow → Shared → Prop}
    (hh : A.handled = none) (hsc : env.scope = mergeScope) (hL : env.locals = L)
    (hn : s.heap.Ns L m) (hq : m "sequences" = some (.ref q)) (hl : s.heap.IsList q (qs.map Value.ref).toArray)
    (hr : ∀ a ∈ qs, RowAt s.heap a (c a)) (hsz : ∀ a ∈ qs, (c a).length ≤ 100) (hlen : qs.length ≤ 100)
    (nx : ∀ h' tk D, s.heap.get? D = none → h'.PlainList D ((qs.filter fun a => neB (c a)).map Value.ref).toArray → KO (· = L) s.heap h' → h'.Ns L (up m "sequences" (.ref D)) → Q .next (Sh s h' tk)) :
    wpAny (model prog w) A (exec (nthS mergeTurn 0) env) Q E s := by
  subst hL
  have hk : env.scope.kind = .function := by rw [hsc]; rfl
  have kd : ∀ y k, mergeScope.names.lookup y = some k → env.kindOf y = some k := fun y k e => by unfold Env.kindOf; rw [hsc]; exact e
  have hLlt : env.locals < s.heap.objs.size := hn.lt
  refine comp_assign (cl := []) ?_ (closureFor_none (by decide)) (by decide) rfl (by decide) (kd _ _ rfl) (by rw [hk]; rfl) (nm hk (kd _ _ rfl) hn hq ?_)
  · obtain ⟨sc, lo, gl, ce, qu, fu, co, fr, bu⟩ := env
    dsimp only at hsc
    subst hsc
    rfl
  refine wpAny_pyIter_list hl ?_
  have hqlt : q < s.heap.objs.size := let ⟨_, ho, _⟩ := hl; Heap.lt_size ho
  have W := Walks.list (prog := prog) (w := w) hh s.heap.objs.size q (Nat.ne_of_lt hqlt) (qs.map Value.ref).toArray
  refine ⟨_, _, _, _, _, _, fun i ys _ => ys = ((qs.take i).filter fun a => neB (c a)).map Value.ref, rfl, W, ?_, ⟨⟨_, Heap.get?_push_size _ rfl, rfl, rfl⟩, hl.at fun o e => Heap.get?_push_of_some _ e⟩, ?_, ?_, ?_, ?_, ?_⟩
  · rw [List.size_toArray, List.length_map, show sizeLine = 2 ^ 24 from rfl]; omega
  · intro b hb
    rw [Heap.size_push]
    rcases List.mem_cons.mp hb with rfl | hb
    · exact Nat.lt_succ_self _
    · rw [List.mem_singleton.mp hb]; exact Nat.lt_succ_of_lt hqlt
  · intro h' k; simp
  · intro i ys h h' e k; exact e
  · intro i v ys h tk m' E' hi hP hys hSt hns hpl hko
    have hv : (qs.map Value.ref)[i]? = some v := by simpa using hP
    simp only [List.getElem?_map] at hv
    obtain ⟨a, ha, rfl⟩ := Option.map_eq_some_iff.mp hv
    have hmem : a ∈ qs := List.mem_of_getElem? ha
    have hC : (s.heap.push { cls := .type "list_iterator", data := .fields #[.ref q, .int 0 0] }).objs.size = s.heap.objs.size + 1 := Heap.size_push ..
    dsimp only at hns hpl hko ⊢
    rw [hC] at hns hpl ⊢
    have hrow : RowAt h a (c a) := by
      refine (hr a hmem).at fun o e => hko a o (fun q => ?_) (Heap.get?_push_of_some _ e)
      exact Nat.lt_irrefl _ (List.mem_singleton.mp q ▸ Heap.lt_size e)
    have hne : a ≠ s.heap.objs.size + 1 + 1 := Nat.ne_of_lt (Nat.lt_succ_of_lt (Nat.lt_succ_of_lt (hr a hmem).lt))
    refine go_name (wpAny_assign_Name (st (env := compEnvC _ [] (s.heap.objs.size + 1 + 1) env) (s := Sh _ h tk) rfl (lookup_relabel_local rfl) hns fun h₁ hn₁ k₁ => ?_))
    obtain ⟨vs, hp, hs⟩ := hrow.ko k₁ hne
    refine wpAny_tests_one (wpAny_isTrue_value (nm (env := compEnvC _ [] (s.heap.objs.size + 1 + 1) env) (s := Sh _ h₁ (tk + 1)) rfl (lookup_relabel_local rfl) hn₁ (v := .ref a) (by rw [up, if_pos rfl]) ?_) rfl)
    have hvl : vs.length ≤ 100 := by rw [hs.length]; exact hsz a hmem
    refine wpAny_truthy_list (s := Sh _ h₁ (tk + 1)) hp.isList ?_ ?_
    · rw [List.size_toArray]; omega
    have hb : (!vs.toArray.isEmpty) = neB (c a) := by
      have hlen := hs.length
      cases vs <;> cases e : c a <;> simp_all [neB]
    have htake : (qs.take (i + 1)) = qs.take i ++ [a] := by rw [List.take_add_one, ha]; rfl
    rw [hb]
    by_cases hnb : neB (c a) = true
    · rw [if_pos hnb]
      refine nm (env := compEnvC _ [] (s.heap.objs.size + 1 + 1) env) (s := Sh _ h₁ (tk + 1 + 1 + 1)) rfl (lookup_relabel_local rfl) hn₁ (v := .ref a) (by rw [up, if_pos rfl]) ⟨h₁, _, _, rfl, ?_, hn₁, k₁⟩
      rw [hys, htake]; simp [hnb]
    · rw [if_neg hnb]
      refine ⟨h₁, _, _, rfl, ?_, hn₁, k₁⟩
      rw [hys, htake]; simp [hnb]
  · refine ⟨m, ?_, hn.push _, ?_⟩
    · intro hm; exact Nat.lt_irrefl _ (List.mem_singleton.mp hm ▸ hLlt)
    · intro h' tk ys hys hpl hns hko
      have hC : (s.heap.push { cls := .type "list_iterator", data := .fields #[.ref q, .int 0 0] }).objs.size = s.heap.objs.size + 1 := Heap.size_push ..
      dsimp only at hns hpl hko ⊢
      rw [hC] at hns hpl
      refine nx h' tk (s.heap.objs.size + 1) ?_ ?_ ?_ hns
      · exact Heap.get?_none_of_le (Nat.le_succ _)
      · rw [List.size_toArray, List.length_map, List.take_length] at hys; rw [← hys]; exact hpl
      · intro b o nb e
        refine hko b o (fun q => ?_) (Heap.get?_push_of_some _ e)
        rcases q with q | q
        · exact Nat.lt_irrefl _ (List.mem_singleton.mp q ▸ Heap.lt_size e)
        · exact nb q
end
end Mine

namespace Mine
section
variable {prog : Program} {w : World} {A : Around} {E : Value → Shared → Prop} {s : Shared} {env : Env}

theorem eqBool_str_dec (x y : Str) : (x == y) = decide (x = y) := by
  rw [Bool.eq_iff_iff]; simp

theorem merge_del {L q : Addr} {qs : List Addr} {c : Addr → List Str} {m : Str → Option Value} {x : Str} {t : Tok} {Q : Flow → Shared → Prop}
    (hh : A.handled = none) (hsc : env.scope = mergeScope) (hL : env.locals = L)
    (hn : s.heap.Ns L m) (hq : m "sequences" = some (.ref q)) (hc : m "candidate" = some (.str x t)) (hl : s.heap.IsList q (qs.map Value.ref).toArray) (hqn : q ∉ qs) (hnd : qs.Nodup)
    (hr : ∀ a ∈ qs, RowAt s.heap a (c a)) (hsz : ∀ a ∈ qs, (c a).length ≤ 100) (hnon : ∀ a ∈ qs, c a ≠ [])
    (nx : ∀ h' tk m', KO (fun b => b = L ∨ b ∈ qs) s.heap h' → h'.Ns L m' → (∀ y : Str, y ≠ "seq" → m' y = m y) → (∀ a ∈ qs, RowAt h' a (strip x (c a))) → Q .next (Sh s h' tk)) :
    wpAny (model prog w) A (exec (nthS mergeTurn 5) env) Q E s := by
  subst hL
  have hk : env.scope.kind = .function := by rw [hsc]; rfl
  have kd : ∀ y k, mergeScope.names.lookup y = some k → env.kindOf y = some k := fun y k e => by unfold Env.kindOf; rw [hsc]; exact e
  have hLlt : env.locals < s.heap.objs.size := hn.lt
  refine for_list hh (nm hk (kd _ _ rfl) hn hq ?_)
  refine ⟨q, qs.map Value.ref, fun i h => KO (fun b => b = env.locals ∨ b ∈ qs) s.heap h ∧ (∀ a ∈ qs, RowAt h a (if a ∈ qs.take i then strip x (c a) else c a)) ∧
    ∃ m', h.Ns env.locals m' ∧ ∀ y : Str, y ≠ "seq" → m' y = m y, rfl, hl, ?_, ?_, ?_, ?_⟩
  · intro h' k
    exact ⟨k.ko, fun a ha => by simpa using (hr a ha).at fun o e => k a o e, m, hn.keeps k, fun _ _ => rfl⟩
  · rintro i h h' ⟨a, b, m', e, f⟩ k
    refine ⟨fun p o np e' => k p o (Nat.ne_of_lt (Heap.lt_size e')) (a p o np e'), fun p hp => (b p hp).ko k (Nat.ne_of_lt (hr p hp).lt), m', e.at' fun o e' => k _ o (Nat.ne_of_lt hLlt) e', f⟩
  · rintro i v h tk hv ⟨k, hrows, m', hn', hm'⟩ hit hl'
    refine go_name (wpAny_assign_Name (st (s := Sh s h tk) hk (kd _ _ rfl) hn' fun h₁ hn₁ k₁ => ?_))
    simp only [List.getElem?_map] at hv
    obtain ⟨a, ha, rfl⟩ := Option.map_eq_some_iff.mp hv
    have hmem : a ∈ qs := List.mem_of_getElem? ha
    have hi : i < qs.length := (List.getElem?_eq_some_iff.mp ha).1
    have hai : qs[i] = a := (List.getElem?_eq_some_iff.mp ha).2
    have hnot : a ∉ qs.take i := by
      intro hin
      obtain ⟨j, hj, hj'⟩ := List.mem_iff_getElem.mp hin
      rw [List.length_take] at hj
      rw [List.getElem_take] at hj'
      have hji : j < i := by omega
      have := (List.nodup_iff_pairwise_ne.mp hnd)
      rw [List.pairwise_iff_getElem] at this
      exact this j i (by omega) hi hji (hj'.trans hai.symm)
    have htake : ∀ b, b ∈ qs.take (i + 1) ↔ b ∈ qs.take i ∨ b = a := fun b => by rw [List.take_add_one, ha]; simp
    have hneL : ∀ b ∈ qs, b ≠ env.locals := fun b hb => (hr b hb).ne_ns hn
    have rows₁ : ∀ b ∈ qs, RowAt h₁ b (if b ∈ qs.take i then strip x (c b) else c b) := fun b hb => (hrows b hb).ko k₁ (hneL b hb)
    obtain ⟨vs, hp, hs⟩ := rows₁ a hmem
    rw [if_neg hnot] at hs
    obtain ⟨z, rest, hcz⟩ : ∃ z rest, c a = z :: rest := by
      cases e : c a with
      | nil => exact absurd e (hnon a hmem)
      | cons x r => exact ⟨x, r, rfl⟩
    obtain ⟨u, hvu⟩ := hs.get (i := 0) (x := z) (by rw [hcz]; rfl)
    have hvl : vs.length ≤ 100 := by rw [hs.length]; exact hsz a hmem
    have hse : s.heap.objs.size ≠ a := Nat.ne_of_gt (hr a hmem).lt
    have hqa : q ≠ a := fun e => hqn (e ▸ hmem)
    have hnm₁ : ∀ y : Str, y ≠ "seq" → up m' "seq" (.ref a) y = m y := fun y hy => by rw [up, if_neg hy, hm' y hy]
    refine wpAny_execs_cons (wpAny_If (wpAny_isTrue_Compare1 (sub_int (nm (s := Sh s h₁ (tk + 1)) hk (kd _ _ rfl) hn₁ (v := .ref a) (by rw [up, if_pos rfl]) ⟨a, vs.toArray, .str z u, rfl, hp.isList, by decide, by decide, by simpa using hvu, ?_⟩)) rfl))
    refine nm (s := Sh s h₁ (tk + 1 + 1)) hk (kd _ _ rfl) hn₁ (v := .str x t) ?_ (PyProof.Rows.eq_str (wpAny_truthy_bool ?_))
    · rw [hnm₁ _ (by decide)]; exact hc
    by_cases hzx : z = x
    · subst hzx
      rw [if_pos (by simp)]
      refine wpAny_execs_cons (wpAny_Delete (wpAny_deleteEach_cons (wpAny_delete_Subscript (nm (s := Sh s h₁ (tk + 1 + 1)) hk (kd _ _ rfl) hn₁ (v := .ref a) (by rw [up, if_pos rfl]) (wpAny_Constant_int ?_)))))
      refine wpAny_delItem_plain (s := Sh s h₁ (tk + 1 + 1 + 1)) (k := 0) hp (by decide) (seqIndex_of (by decide) (by
        have h0 : 0 < vs.length := (List.getElem?_eq_some_iff.mp hvu).1
        rw [List.size_toArray]; omega)) (fun h₂ hp₂ hs₂ => ?_) (by rw [List.size_toArray, show sizeLine = 2 ^ 24 from rfl]; omega)
      refine wpAny_deleteEach_nil (wpAny_execs_nil (wpAny_execs_nil ⟨h₂, _, rfl, ⟨?_, ?_, _, hn₁.sameBut hs₂ (Ne.symm (hneL a hmem)), hnm₁⟩, ?_, ?_⟩))
      · intro b o nb e
        exact hs₂.extBut b o (fun q => nb (.inr (q ▸ hmem))) (k₁ b o (fun q => nb (.inl q)) (k b o nb e))
      · intro b hb
        by_cases hba : b = a
        · subst hba
          rw [if_pos ((htake b).mpr (.inr rfl))]
          have hst : strip z (c b) = (c b).drop 1 := by rw [strip, hcz]; simp
          rw [hst]
          refine ⟨vs.drop 1, ?_, hs.drop 1⟩
          have he : (vs.toArray.eraseIdxIfInBounds 0) = (vs.drop 1).toArray := by
            cases vs with
            | nil => rfl
            | cons v r => simp [Array.eraseIdxIfInBounds]
          rw [← he]; exact hp₂
        · have := (rows₁ b hb).ko (ko_same hs₂) hba
          have hiff : (b ∈ qs.take (i + 1)) ↔ (b ∈ qs.take i) := by rw [htake]; simp [hba]
          simp only [hiff]; exact this
      · exact fun o e => hs₂.extBut _ o hse (k₁ _ o (Nat.ne_of_gt hLlt) e)
      · exact fun o e => hs₂.extBut _ o hqa (k₁ _ o (list_ne_ns hl hn) e)
    · rw [if_neg (by simp [hzx])]
      refine wpAny_execs_nil (wpAny_execs_nil ⟨h₁, _, rfl, ⟨?_, ?_, _, hn₁, hnm₁⟩, ?_, ?_⟩)
      · exact fun b o nb e => k₁ b o (fun q => nb (.inl q)) (k b o nb e)
      · intro b hb
        have := rows₁ b hb
        by_cases hba : b = a
        · subst hba
          rw [if_pos ((htake b).mpr (.inr rfl))]
          rw [if_neg hnot] at this
          have hst : strip x (c b) = c b := by rw [strip, hcz]; simp [hzx]
          rw [hst]; exact this
        · have hiff : (b ∈ qs.take (i + 1)) ↔ (b ∈ qs.take i) := by rw [htake]; simp [hba]
          simp only [hiff]; exact this
      · exact fun o e => k₁ _ o (Nat.ne_of_gt hLlt) e
      · exact fun o e => k₁ _ o (list_ne_ns hl hn) e
  · rintro h tk ⟨k, hrows, m', hn', hm'⟩
    refine wpAny_execs_nil (nx h tk m' k hn' hm' fun a ha => ?_)
    have := hrows a ha
    rw [List.length_map, List.take_length, if_pos ha] at this
    exact this
end
end Mine

namespace Mine

theorem nm_global {prog : Program} {w : World} {A : Around} {E : Value → Shared → Prop} {s : Shared} {env : Env} {x : Str} {pos : Pos} {v : Value} {mg : Str → Option Value} {Q : Value → Shared → Prop}
    (hk : env.scope.kind = .function) (hx : env.kindOf x = some .globalImplicit) (hg : s.heap.Ns env.globals mg) (hv : mg x = some v) (h : Q v s) (hd : (x == ("__debug__" : Str)) = false := by decide) :
    wpAny (model prog w) A (eval (.Name x pos) env) Q E s := Calls.Name_function_global hk hx (Calls.loadGlobal_global hg hv h) hd
theorem nm_builtin {prog : Program} {w : World} {A : Around} {E : Value → Shared → Prop} {s : Shared} {env : Env} {x : Str} {pos : Pos} {v : Value} {mg mb : Str → Option Value} {Q : Value → Shared → Prop}
    (hk : env.scope.kind = .function) (hx : env.kindOf x = some .globalImplicit) (hg : s.heap.Ns env.globals mg) (hm : mg x = none) (hb : s.heap.Ns env.builtins mb) (hv : mb x = some v) (h : Q v s)
    (hd : (x == ("__debug__" : Str)) = false := by decide) :
    wpAny (model prog w) A (eval (.Name x pos) env) Q E s := Calls.Name_function_global hk hx (Calls.loadGlobal_builtin hg hm hb hv h) hd

def total (c : Addr → List Str) (qs : List Addr) : Nat := (qs.map fun a => (c a).length).sum

theorem total_filter (c : Addr → List Str) (p : Addr → Bool) : ∀ qs : List Addr, total c (qs.filter p) ≤ total c qs
  | [] => Nat.le_refl _
  | a :: r => by
    have ih := total_filter c p r
    unfold total at *
    simp only [List.filter_cons]
    split <;> simp only [List.map_cons, List.sum_cons] <;> omega
theorem strip_len (x : Str) (l : List Str) : (strip x l).length ≤ l.length := by
  unfold strip; split <;> simp
theorem strip_len_lt {x : Str} {l : List Str} (h : l.head? = some x) : (strip x l).length < l.length := by
  unfold strip; rw [if_pos h]; cases l <;> simp at *
theorem total_strip (c : Addr → List Str) (x : Str) : ∀ qs : List Addr, total (fun a => strip x (c a)) qs ≤ total c qs
  | [] => Nat.le_refl _
  | a :: r => by
    have ih := total_strip c x r
    have := strip_len x (c a)
    unfold total at *
    simp only [List.map_cons, List.sum_cons] at *; omega
theorem total_append (c : Addr → List Str) (p q : List Addr) : total c (p ++ q) = total c p + total c q := by simp [total]
theorem total_strip_lt {c : Addr → List Str} {x : Str} {pre post : List Addr} {a : Addr} (h : (c a).head? = some x) : total (fun a => strip x (c a)) (pre ++ a :: post) < total c (pre ++ a :: post) := by
  have h1 := total_strip c x pre
  have h2 := total_strip c x post
  have h3 := strip_len_lt h
  rw [total_append, total_append]
  unfold total at *
  simp only [List.map_cons, List.sum_cons] at *; omega

def msg : Str := "Inconsistent hierarchy"

section
variable {prog : Program} {w : World} {A : Around} {E : Value → Shared → Prop} {s : Shared} {env : Env}

theorem merge_while {L res q₀ : Addr} {as qs₀ : List Addr} {c₀ : Addr → List Str} {m₀ mg mb : Str → Option Value} {Q : Flow → Shared → Prop}
    (hh : A.handled = none) (hsc : env.scope = mergeScope) (hL : env.locals = L) (hE : PassesOwn (model prog w) A env E)
    (hg : s.heap.Ns env.globals mg) (hb : s.heap.Ns env.builtins mb) (hgL : env.globals ≠ L) (hbL : env.builtins ≠ L) (hmg : mg "RuntimeError" = none) (hmb : mb "RuntimeError" = some (.type "RuntimeError"))
    (hn : s.heap.Ns L m₀) (hres : m₀ "result" = some (.ref res)) (hq : m₀ "sequences" = some (.ref q₀)) (hrl : RowAt s.heap res []) (hl : s.heap.IsList q₀ (qs₀.map Value.ref).toArray)
    (hr : ∀ a ∈ as, RowAt s.heap a (c₀ a)) (hqa : q₀ ∉ as) (hqr : q₀ ≠ res) (hra : res ∉ as) (hnd : qs₀.Nodup) (hsub : ∀ a ∈ qs₀, a ∈ as) (hout : ∀ a ∈ as, a ∉ qs₀ → c₀ a = [])
    (hlen : qs₀.length ≤ 100) (hsz : ∀ a ∈ as, (c₀ a).length ≤ 100)
    (ok : ∀ r, Merges (qs₀.map c₀) (some r) → ∀ h' tk, RowAt h' res r → (∀ a ∈ as, RowAt h' a []) → KO (fun b => b = L ∨ b = res ∨ b ∈ as) s.heap h' → Q (.ret (.ref res)) (Sh s h' tk))
    (bad : Merges (qs₀.map c₀) none → ∀ h tk m' t h' e, KO (fun b => b = L ∨ b = res ∨ b ∈ as) s.heap h → h.Ns L m' → h.MadeExc h' e "RuntimeError" [.str msg t] → E (.ref e) (Sh s h' tk)) :
    wpAny (model prog w) A (exec (nthS mergeBody 1) env) Q E s := by
  subst hL
  have hk : env.scope.kind = .function := by rw [hsc]; rfl
  have kd : ∀ y k, mergeScope.names.lookup y = some k → env.kindOf y = some k := fun y k e => by unfold Env.kindOf; rw [hsc]; exact e
  have hrl₀ : ∀ {m'}, s.heap.Ns res m' → False := fun h => hrl.ne_ns h rfl
  have hr₀ : ∀ a ∈ as, ∀ {m'}, s.heap.Ns a m' → False := fun a ha _ h => (hr a ha).ne_ns h rfl
  have tot0 : total c₀ qs₀ ≤ 10000 := by
    have : ∀ l : List Addr, (∀ a ∈ l, (c₀ a).length ≤ 100) → total c₀ l ≤ 100 * l.length := by
      intro l
      induction l with
      | nil => intro _; exact Nat.le_refl _
      | cons a r ih =>
        intro h
        have h1 := ih fun b hb => h b (List.mem_cons_of_mem _ hb)
        have h2 := h a List.mem_cons_self
        unfold total at *
        simp only [List.map_cons, List.sum_cons, List.length_cons]; omega
    have := this qs₀ fun a ha => hsz a (hsub a ha)
    omega
  refine wpAny_While (codeAny_whileLoop (fun n s' => ∃ h tk m q qs c acc, s' = Sh s h tk ∧ h.Ns env.locals m ∧ m "result" = some (.ref res) ∧ m "sequences" = some (.ref q) ∧ RowAt h res acc ∧
    h.IsList q (qs.map Value.ref).toArray ∧ (∀ a ∈ as, RowAt h a (c a)) ∧ KO (fun b => b = env.locals ∨ b = res ∨ b ∈ as) s.heap h ∧ q ∉ as ∧ q ≠ res ∧ qs.Nodup ∧ (∀ a ∈ qs, a ∈ as) ∧
    (∀ a ∈ as, a ∉ qs → c a = []) ∧ qs.length ≤ 100 ∧ (∀ a ∈ as, (c a).length ≤ 100) ∧ n = total c qs ∧ acc.length + total c qs ≤ 10000 ∧
    (∀ r, Merges (qs.map c) (some r) → ∀ h' tk, RowAt h' res (acc ++ r) → (∀ a ∈ as, RowAt h' a []) → KO (fun b => b = env.locals ∨ b = res ∨ b ∈ as) s.heap h' → Q (.ret (.ref res)) (Sh s h' tk)) ∧
    (Merges (qs.map c) none → ∀ h tk m' t h' e, KO (fun b => b = env.locals ∨ b = res ∨ b ∈ as) s.heap h → h.Ns env.locals m' → h.MadeExc h' e "RuntimeError" [.str msg t] → E (.ref e) (Sh s h' tk))) ?_ (total c₀ qs₀)
    ⟨s.heap, s.toks, m₀, q₀, qs₀, c₀, [], rfl, hn, hres, hq, hrl, hl, hr, KO.refl _ _, hqa, hqr, hnd, hsub, hout, hlen, hsz, rfl, by simpa using tot0, by simpa using ok, bad⟩)
  rintro n s' ⟨h, tk, m, q, qs, c, acc, rfl, hn, hres, hq, hrl, hl, hr, hko, hqa, hqr, hnd, hsub, hout, hlen, hsz, rfl, htot, ok, bad⟩
  refine wpAny_isTrue_value (wpAny_Constant_bool (wpAny_truthy_bool ?_)) rfl
  rw [if_pos rfl]
  refine wpAny_execs_cons ?_
  have hrq : ∀ a ∈ qs, RowAt h a (c a) := fun a ha => hr a (hsub a ha)
  have hsq : ∀ a ∈ qs, (c a).length ≤ 100 := fun a ha => hsz a (hsub a ha)
  refine merge_filter (s := Sh s h tk) hh hsc rfl hn hq hl hrq hsq hlen ?_
  intro h₁ tk₁ D hD hDl k₁ hn₁
  -- the filtered rows
  generalize hqs' : (qs.filter fun a => neB (c a)) = qs' at hDl
  have hsub' : ∀ a ∈ qs', a ∈ qs ∧ neB (c a) = true := fun a ha => by rw [← hqs'] at ha; exact List.mem_filter.mp ha
  have hrows : (qs.map c).filter neB = qs'.map c := by rw [← hqs', List.filter_map]; rfl
  have hneL : ∀ a ∈ as, a ≠ env.locals := fun a ha => (hr a ha).ne_ns hn
  have hresL : res ≠ env.locals := hrl.ne_ns hn
  have r₁ : ∀ a ∈ as, RowAt h₁ a (c a) := fun a ha => (hr a ha).ko k₁ (hneL a ha)
  have rl₁ : RowAt h₁ res acc := hrl.ko k₁ hresL
  have hDas : D ∉ as := fun hin => by
    obtain ⟨_, ⟨_, p⟩, _⟩ := hr D hin
    rw [hD] at p; cases p
  have hDres : D ≠ res := by
    rintro rfl
    obtain ⟨_, ⟨_, p⟩, _⟩ := hrl
    rw [hD] at p; cases p
  have ko₁ : KO (fun b => b = env.locals ∨ b = res ∨ b ∈ as) s.heap h₁ := hko.trans (k₁.mono fun _ => .inl)
  have hlen' : qs'.length ≤ 100 := by rw [← hqs']; exact Nat.le_trans (List.length_filter_le _ _) hlen
  refine wpAny_execs_cons (wpAny_If (wpAny_isTrue_Not (wpAny_isTrue_value (nm (s := Sh s h₁ tk₁) hk (kd _ _ rfl) hn₁ (v := .ref D) (by rw [up, if_pos rfl])
    (wpAny_truthy_list (s := Sh s h₁ tk₁) hDl.isList (by rw [List.size_toArray, List.length_map]; omega) ?_)) rfl)))
  by_cases hnil : qs' = []
  · subst hnil
    rw [if_pos (by rfl)]
    refine wpAny_execs_cons (wpAny_Return_some (nm (s := Sh s h₁ (tk₁ + 1 + 1)) hk (kd _ _ rfl) hn₁ (v := .ref res) (by rw [up, if_neg (by decide)]; exact hres) ?_))
    refine ok [] (.done (by rw [hrows]; rfl)) h₁ _ (by simpa using rl₁) (fun a ha => ?_) ko₁
    have hca : c a = [] := by
      by_cases hin : a ∈ qs
      · have : neB (c a) = false := by
          cases e : neB (c a) with
          | false => rfl
          | true => exact absurd (hqs' ▸ List.mem_filter.mpr ⟨hin, e⟩ : a ∈ ([] : List Addr)) (by simp)
        simpa [neB] using this
      · exact hout a ha hin
    have := r₁ a ha
    rw [hca] at this; exact this
  · rw [if_neg (by cases qs' <;> simp at hnil ⊢)]
    refine wpAny_execs_nil (wpAny_execs_cons ?_)
    have hne' : ∀ a ∈ qs', c a ≠ [] := fun a ha => by
      have := (hsub' a ha).2
      intro e; rw [e] at this; simp [neB] at this
    refine merge_search (s := Sh s h₁ (tk₁ + 1 + 1)) (c := c) hh hsc rfl hn₁ (by rw [up, if_pos rfl]) hDl.isList hnil (fun a ha => r₁ a (hsub a (hsub' a ha).1)) (fun a ha => hsq a (hsub' a ha).1) hne' ?_ ?_
    · intro h₂ tk₂ m₂ pre a post x t hsplit hhead hgood hpre k₂ hn₂ hcand hm₂
      refine wpAny_execs_cons (wpAny_If (wpAny_isTrue_Compare1 (nm (s := Sh s h₂ tk₂) hk (kd _ _ rfl) hn₂ hcand (wpAny_Constant_none (is_none (wpAny_truthy_bool ?_)))) rfl))
      rw [if_neg (by exact Bool.false_ne_true)]
      refine wpAny_execs_nil (wpAny_execs_cons (wpAny_Expr (wpAny_Call_append rfl rfl rfl rfl (nm (s := Sh s h₂ tk₂) hk (kd _ _ rfl) hn₂ (v := .ref res) ?_ ?_)) ?_ rfl))
      · rw [hm₂ _ (by decide) (by decide) (by decide), up, if_neg (by decide)]; exact hres
      · obtain ⟨vs, hp, hs⟩ := rl₁.ko k₂ hresL
        have hp' : PlainL h₂ res vs.toArray := let ⟨n, e⟩ := hp; ⟨_, n, e, rfl, rfl, rfl⟩
        refine ⟨res, vs.toArray, rfl, hp', nm (s := Sh s h₂ tk₂) hk (kd _ _ rfl) hn₂ hcand ?_⟩
        refine wpAny_list_append_plain (s := Sh s h₂ tk₂) hp (fun h₃ hp₃ hs₃ => ?_) (by rw [List.size_toArray, hs.length, show sizeLine = 2 ^ 24 from rfl]; omega)
        have k₃ : KO (· = res) h₂ h₃ := ko_same hs₃
        have k13 : KO (fun b => b = env.locals ∨ b = res ∨ b ∈ as) h₁ h₃ := (k₂.mono fun _ => .inl).trans (k₃.mono fun _ q => .inr (.inl q))
        have hn₃ : h₃.Ns env.locals m₂ := hn₂.sameBut hs₃ (Ne.symm hresL)
        have rl₃ : RowAt h₃ res (acc ++ [x]) := ⟨vs ++ [.str x t], by simpa using hp₃, hs.snoc x t⟩
        have r₃ : ∀ a ∈ as, RowAt h₃ a (c a) := fun a ha => ((r₁ a ha).ko k₂ (hneL a ha)).ko k₃ (fun e => hra (e ▸ ha))
        have hD₃ : h₃.IsList D (qs'.map Value.ref).toArray := IsList.ko (IsList.ko hDl.isList k₂ (list_ne_ns hDl.isList hn₁)) k₃ hDres
        refine wpAny_execs_cons (merge_del (s := Sh s h₃ tk₂) (c := c) hh hsc rfl hn₃ (q := D) (by rw [hm₂ _ (by decide) (by decide) (by decide), up, if_pos rfl]) hcand hD₃ (fun hin => hDas (hsub D (hsub' D hin).1)) ?_
          (fun a ha => r₃ a (hsub a (hsub' a ha).1)) (fun a ha => hsq a (hsub' a ha).1) hne' ?_)
        · rw [← hqs']; exact hnd.filter _
        intro h₄ tk₄ m₄ k₄ hn₄ hm₄ hr₄
        have hc' : ∀ a ∈ as, a ∉ qs' → c a = [] := fun a ha hna => by
          by_cases hin : a ∈ qs
          · have : neB (c a) = false := by
              cases e : neB (c a) with
              | false => rfl
              | true => exact absurd (hqs' ▸ List.mem_filter.mpr ⟨hin, e⟩) hna
            simpa [neB] using this
          · exact hout a ha hin
        have hn4 : ∀ b, (b = env.locals ∨ b ∈ qs') → (b = env.locals ∨ b = res ∨ b ∈ as) := fun b hb => hb.imp id fun q => .inr (hsub b (hsub' b q).1)
        have hlt : total (fun a => strip x (c a)) qs' < total c qs' := by rw [hsplit]; exact total_strip_lt hhead
        have hle : total c qs' ≤ total c qs := by rw [← hqs']; exact total_filter c _ qs
        have hmap : ((qs.map c).filter neB).map (strip x) = qs'.map fun a => strip x (c a) := by rw [hrows, List.map_map]; rfl
        have step : ∀ o, Merges (qs'.map fun a => strip x (c a)) o → Merges (qs.map c) (o.map (x :: ·)) := fun o ho => by
          refine .step (pre := pre.map c) (r := c a) (post := post.map c) ?_ hhead ?_ ?_ (by rw [hmap]; exact ho)
          · rw [hrows, hsplit]; simp
          · rw [hrows]; intro b hb
            obtain ⟨b', hb', rfl⟩ := List.mem_map.mp hb
            exact hgood b' hb'
          · intro p hp y hy
            obtain ⟨p', hp', rfl⟩ := List.mem_map.mp hp
            obtain ⟨b, hb, hb2⟩ := hpre p' hp' y hy
            exact ⟨c b, by rw [hrows]; exact List.mem_map_of_mem hb, hb2⟩
        refine wpAny_execs_nil ⟨total (fun a => strip x (c a)) qs', by omega, h₄, tk₄, m₄, D, qs', fun a => strip x (c a), acc ++ [x], rfl, hn₄, ?_, ?_, ?_, ?_, ?_, ?_, hDas, hDres, ?_, ?_, ?_, hlen', ?_, rfl, ?_, ?_, ?_⟩
        · rw [hm₄ _ (by decide), hm₂ _ (by decide) (by decide) (by decide), up, if_neg (by decide)]; exact hres
        · rw [hm₄ _ (by decide), hm₂ _ (by decide) (by decide) (by decide), up, if_pos rfl]
        · exact rl₃.ko k₄ fun q => q.elim hresL fun q => hra (hsub _ (hsub' _ q).1)
        · exact IsList.ko hD₃ k₄ fun q => q.elim (list_ne_ns hDl.isList hn₁) fun q => hDas (hsub _ (hsub' _ q).1)
        · intro a ha
          by_cases hin : a ∈ qs'
          · exact hr₄ a hin
          · have := (r₃ a ha).ko k₄ fun q => q.elim (hneL a ha) hin
            rw [hc' a ha hin] at this
            show RowAt h₄ a (strip x (c a))
            rw [hc' a ha hin]; exact this
        · exact (ko₁.trans k13).trans (k₄.mono hn4)
        · rw [← hqs']; exact hnd.filter _
        · exact fun a ha => hsub a (hsub' a ha).1
        · intro a ha hna
          show strip x (c a) = []
          rw [hc' a ha hna]; rfl
        · exact fun a ha => Nat.le_trans (strip_len x (c a)) (hsz a ha)
        · rw [List.length_append, List.length_singleton]; omega
        · intro r hr' h' tk' p1 p2 p3
          refine ok (x :: r) (step _ hr') h' tk' (by simpa using p1) p2 p3
        · intro hb'
          exact bad (step _ hb')
      · obtain ⟨sc, lo, gl, ce, qu, fu, co, fr, bu⟩ := env
        dsimp only at hsc
        subst hsc
        rfl
    · intro h₂ tk₂ m₂ hno k₂ hn₂ hcand hm₂
      have ko₂ : KO (fun b => b = env.locals ∨ b = res ∨ b ∈ as) s.heap h₂ := ko₁.trans (k₂.mono fun _ => .inl)
      refine wpAny_execs_cons (wpAny_If (wpAny_isTrue_Compare1 (nm (s := Sh s h₂ tk₂) hk (kd _ _ rfl) hn₂ hcand (wpAny_Constant_none (is_none (wpAny_truthy_bool ?_)))) rfl))
      rw [if_pos (by rfl)]
      have nW : ∀ {b m'}, s.heap.Ns b m' → b ≠ env.locals → ¬ (b = env.locals ∨ b = res ∨ b ∈ as) := fun {b m'} hb hne q => by
        rcases q with q | q | q
        · exact hne q
        · subst q; exact hrl₀ hb
        · exact hr₀ b q hb
      have hg₂ : h₂.Ns env.globals mg := hg.at' fun o e => ko₂ _ o (nW hg hgL) e
      have hb₂ : h₂.Ns env.builtins mb := hb.at' fun o e => ko₂ _ o (nW hb hbL) e
      refine wpAny_execs_cons (wpAny_Raise_call F.excCall_RuntimeError F.excRaise_RuntimeError hh rfl (nm_builtin (s := Sh s h₂ tk₂) hk (kd _ _ rfl) hg₂ hmg hb₂ hmb ⟨rfl, ?_⟩))
      refine Calls.evalArgs_plain (Calls.spliced_cons (Calls.Constant_str (k := 0) (pos := default) (Calls.spliced_nil ⟨rfl, (show (1 : Nat) ≤ sizeLine by decide), fun h' e hm => ?_⟩)))
      refine hE _ _ (bad (.bad ?_ ?_) h₂ _ m₂ _ h' e ko₂ hn₂ hm)
      · rw [hrows]; simpa using hnil
      · rw [hrows]; intro r hr' x hx
        obtain ⟨p, hp, rfl⟩ := List.mem_map.mp hr'
        obtain ⟨b, hb', hb2⟩ := hno p hp x hx
        exact ⟨c b, List.mem_map_of_mem hb', hb2⟩
end
end Mine

namespace Mine
section
variable {prog : Program} {w : World} {A : Around} {E : Value → Shared → Prop} {s : Shared} {env : Env}

theorem rows_ne_ns {h : Heap} {b : Addr} {m : Str → Option Value} {as : List Addr} {c : Addr → List Str} (hr : ∀ a ∈ as, RowAt h a (c a)) (hb : h.Ns b m) : b ∉ as := fun hin => (hr b hin).ne_ns hb rfl

theorem merge_call {f R lL : Addr} {o : Obj} {fd : FuncData} {as : List Addr} {c : Addr → List Str} {base : Heap} {lenv : Env} {lm mg mb : Str → Option Value} {Q : Value → Shared → Prop}
    (hh : A.handled = none) (hroom : A.depth < recursionLimit) (ho : s.heap.get? f = some o) (hd : o.data = .func fd) (hlim : s.heap.NoLimit) (hcd : s.heap.CodeRec fd.code fd.qualname)
    (hbody : fd.body = .stmts mergeBody) (hscope : fd.scope = mergeScope) (hgl : fd.globals = mainGlobals) (hbu : fd.builtins = builtinsNs) (hbind : BindsTo s fd ⟨[.ref R], []⟩ [("sequences", .ref R)])
    (hg : s.heap.Ns mainGlobals mg) (hb : s.heap.Ns builtinsNs mb) (hmg : mg "RuntimeError" = none) (hmb : mb "RuntimeError" = some (.type "RuntimeError"))
    (hR : s.heap.IsList R (as.map Value.ref).toArray) (hRa : R ∉ as) (hnd : as.Nodup) (hr : ∀ a ∈ as, RowAt s.heap a (c a)) (hlen : as.length ≤ 100) (hsz : ∀ a ∈ as, (c a).length ≤ 100)
    (hfr : A.frames = some [lenv]) (hlf : lenv.frame = some lL) (hlk : lenv.scope.kind = .function) (hlns : s.heap.Ns lL lm) (hbase : KA base s.heap) (hbl : base.get? lL = none) (hba : ∀ a ∈ as, base.get? a = none)
    (ok : ∀ r, Merges (as.map c) (some r) → ∀ h' tk D, s.heap.get? D = none → RowAt h' D r → (∀ a ∈ as, RowAt h' a []) → KO (· ∈ as) s.heap h' → Q (.ref D) (Sh s h' tk))
    (bad : Merges (as.map c) none → ∀ h' tk e t tok, h'.Ns lL lm → Heap.FlyingW base [lenv] e (.type "RuntimeError") (.ref t) h' → h'.TupAt t [.str msg tok] → E (.ref e) (Sh s h' tk)) :
    wpAny (model prog w) A (call (.ref f) [.ref R]) Q E s := by
  refine wpAny_call (codeAny_call_def hroom ho hd hlim hcd hbody hbind (by rw [hscope]; decide) ?_ ?_ (by rw [hscope]; rfl) (by rw [hscope]; rfl) (by rw [hscope]; rfl))
  · intro x hx
    rw [List.mem_singleton.mp hx, hscope]; rfl
  intro h₀ hn₀ k₀
  generalize hL : s.heap.objs.size = L at hn₀
  have hsc : (callEnv fd L f).scope = mergeScope := hscope
  have hk : (callEnv fd L f).scope.kind = .function := by rw [hsc]; rfl
  have kd : ∀ y k, mergeScope.names.lookup y = some k → (callEnv fd L f).kindOf y = some k := fun y k e => by unfold Env.kindOf; rw [hsc]; exact e
  have hLn : s.heap.get? L = none := by rw [← hL]; exact Heap.get?_none_of_le (Nat.le_refl _)
  generalize henv : callEnv fd L f = env at hsc hk kd
  have hel : env.locals = L := by rw [← henv]; rfl
  have heg : env.globals = mainGlobals := by rw [← henv]; exact hgl
  have heb : env.builtins = builtinsNs := by rw [← henv]; exact hbu
  have hef : env.frame = some L := by rw [← henv]; rfl
  rw [← hel] at hn₀
  refine wpAny_execs_cons (wpAny_Assign_Name (wpAny_List (Calls.spliced_nil ⟨by decide, ?_⟩)))
  have hpush : KA h₀ (h₀.push { cls := .type "list", data := .seq ([] : List Value).toArray }) := KA.push _ _
  refine st (s := Sh s _ _) hk (kd _ _ rfl) (hn₀.keeps hpush) fun h₁ hn₁ k₁ => ?_
  have hresn : h₀.get? h₀.objs.size = none := Heap.get?_none_of_le (Nat.le_refl _)
  have hresL : h₀.objs.size ≠ env.locals := Nat.ne_of_gt hn₀.lt
  have hres₁ : RowAt h₁ h₀.objs.size [] := ⟨[], ⟨0, k₁ _ _ hresL (Heap.get?_push_size _ rfl)⟩, rfl⟩
  have hka : KA s.heap h₁ := fun b o' e => k₁ b o' (by rw [hel]; rintro rfl; rw [hLn] at e; cases e) (hpush b o' (k₀ b o' e))
  have hrs : s.heap.get? h₀.objs.size = none := by
    cases e : s.heap.get? h₀.objs.size with
    | none => rfl
    | some o' => have := k₀ _ _ e; rw [hresn] at this; cases this
  have hr₁ : ∀ a ∈ as, RowAt h₁ a (c a) := fun a ha => (hr a ha).at fun o' e => hka a o' e
  have hnew : ∀ {b o'}, s.heap.get? b = some o' → b ≠ L ∧ b ≠ h₀.objs.size := fun {b o'} e => ⟨Ne.symm (ne_of_none_some hLn e), Ne.symm (ne_of_none_some hrs e)⟩
  have nsne : ∀ {b m'}, s.heap.Ns b m' → b ≠ L ∧ b ≠ h₀.objs.size := fun {b m'} hb => let ⟨_, _, _, e, _⟩ := hb; hnew e
  have rowne : ∀ a ∈ as, a ≠ L ∧ a ≠ h₀.objs.size := fun a ha => let ⟨_, ⟨_, p⟩, _⟩ := hr a ha; hnew p
  have Rne : R ≠ L ∧ R ≠ h₀.objs.size := let ⟨_, e, _⟩ := hR; hnew e
  refine wpAny_execs_cons (merge_while (s := Sh s h₁ _) (res := h₀.objs.size) (q₀ := R) (as := as) (qs₀ := as) (c₀ := c) (mg := mg) (mb := mb) hh hsc rfl PassesOwn.leaving (heg ▸ hg.keeps hka) (heb ▸ hb.keeps hka) ?_ ?_ hmg hmb hn₁ ?_ ?_ hres₁ (hR.at fun o' e => hka R o' e) hr₁ hRa Rne.2 (fun hin => (rowne _ hin).2 rfl) hnd (fun a ha => ha) (fun a ha hna => absurd ha hna) hlen hsz ?_ ?_)
  · rw [heg, hel]; exact (nsne hg).1
  · rw [heb, hel]; exact (nsne hb).1
  · rw [up, if_pos rfl]
  · rw [up, if_neg (by decide)]; rfl
  · intro r hm h' tk hrow hrows hko
    refine ok r hm h' tk _ hrs hrow hrows fun b o' nb e => hko b o' (fun q => ?_) (hka b o' e)
    rcases q with q | q | q
    · rw [hel] at q; exact (hnew e).1 q
    · exact (hnew e).2 q
    · exact nb q
  · intro hm h tk m' t h' e hko hns hex
    have hex' : Heap.MadeExcOf h h' e (.type "RuntimeError") [.str msg t] := ⟨hex.keeps, hex.new, hex.there⟩
    have keepS : ∀ b o', s.heap.get? b = some o' → b ∉ as → h.get? b = some o' := fun b o' e nb => hko b o' (fun q => by
      rcases q with q | q | q
      · rw [hel] at q; exact (hnew e).1 q
      · exact (hnew e).2 q
      · exact nb q) (hka b o' e)
    have hbaseh : base.StaysIn h := fun b o' e => keepS b o' (hbase b o' e) fun hin => by rw [hba b hin] at e; cases e
    have hlh : h.Ns lL lm := hlns.at' fun o' e => keepS _ o' e (rows_ne_ns hr hlns)
    have hbL : base.get? L = none := by
      cases q : base.get? L with
      | none => rfl
      | some o' => have := hbase _ _ q; rw [hLn] at this; cases this
    have frames : h.FunFrames base (env :: [lenv]) := by
      refine .cons (by rw [hk]; decide) hef (hel ▸ hns) hbL (.cons (by rw [hlk]; decide) hlf hlh hbl trivial)
    refine wpAny_leaves_madeW (s := Sh s h' tk) (Around.frames_deeper hfr) hef hbaseh frames hex' fun h'' t'' hfl htup _ hup => ?_
    exact bad hm h'' tk e t'' t (hup.ns (hlh.keeps hex.keeps)) hfl htup
end
end Mine

namespace Mine

/-- what the program reads of the module's and the built-ins' names -/
structure Gd (h : Heap) (mg mb : Str → Option Value) : Prop where
  g : h.Ns mainGlobals mg
  b : h.Ns builtinsNs mb
  lim : h.NoLimit
  range0 : mg "range" = none
  range : mb "range" = some (.type "range")
  len0 : mg "len" = none
  len : mb "len" = some (.builtin "len")
  str0 : mg "str" = none
  str : mb "str" = some (.type "str")
  re0 : mg "RuntimeError" = none
  re : mb "RuntimeError" = some (.type "RuntimeError")
theorem Gd.keeps {h h' : Heap} {mg mb : Str → Option Value} (x : Gd h mg mb) (k : KA h h') : Gd h' mg mb := { x with g := x.g.keeps k, b := x.b.keeps k, lim := x.lim.keeps k }

section
variable {prog : Program} {w : World} {A : Around} {E : Value → Shared → Prop} {s : Shared} {env : Env}

theorem for_range {x : Str} {px : Pos} {iter : Expr} {body orelse : List Stmt} {pos : Pos} {Q : Flow → Shared → Prop} (hh : A.handled = none)
    (h : wpAny (model prog w) A (eval iter env) (fun xv s₁ => ∃ r a b c t u v, ∃ n : Nat, ∃ Inv : Nat → Heap → Prop, xv = .ref r ∧ IsRange s₁.heap r a b c t u v ∧ Builtin.Range.small a b c = true ∧ Builtin.Range.rangeSize a b c = n ∧
        (∀ h', KA s₁.heap h' → Inv 0 h') ∧
        (∀ i h h', Inv i h → KO (· = s₁.heap.objs.size) h h' → Inv i h') ∧
        (∀ i t h tk o, i < n → Inv i h → h.get? s₁.heap.objs.size = some o →
          wpAny (model prog w) A (assign (.Name x px) env (.int (a + (i : Nat) * c) t)) (fun _ s₃ =>
            wpAny (model prog w) A (execs body env) (TurnEnd Q fun s₄ => ∃ h' tk', s₄ = Sh s₁ h' tk' ∧ Inv (i + 1) h' ∧ h'.get? s₁.heap.objs.size = some o)
              (EIn prog w A env E) s₃) (EIn prog w A env E) (Sh s₁ h tk)) ∧
        (∀ h tk, Inv n h → wpAny (model prog w) A (execs orelse env) Q (EIn prog w A env E) (Sh s₁ h tk))) E s)
    (hs : ∀ x, foldedSetIterable iter env x = pure x := by intro _; rfl) :
    wpAny (model prog w) A (exec (.For (.Name x px) iter body orelse pos) env) Q E s := by
  refine for_walk (wpAny_mono h (fun xv s₁ h₁ => ?_) fun _ _ e => e) hs
  obtain ⟨r, a, b, c, t, u, v, n, Inv, rfl, hr, hsm, hn, i0, hst, turn, done⟩ := h₁
  refine wpAny_pyIter_range hr hsm ?_
  rw [hn]
  have W := Walks.range (prog := prog) (w := w) hh s₁.heap.objs.size a c n
  refine ⟨_, _, _, _, _, _, Inv, rfl, W, ?_, i0 _ (KA.push _ _), ?_, ?_, ?_⟩
  · show (s₁.heap.push _).get? _ = _
    have := Heap.get?_push_size s₁.heap (o := { cls := .type "range_iterator", data := .fields #[rawInt a, rawInt (n : Int), rawInt c] }) rfl
    simpa using this
  · intro i h h' hi hk
    exact hst i h h' hi fun b o n e => hk b o (fun q => n (List.mem_singleton.mp q)) e
  · intro i v h tk hi hP hI hSt
    obtain ⟨t', rfl⟩ := hP
    obtain ⟨oI, hoI⟩ : ∃ o, h.get? s₁.heap.objs.size = some o := ⟨_, hSt⟩
    refine go_name (wpAny_mono (turn i t' h tk oI hi hI hoI) (fun _ s₄ h₄ => wpAny_mono h₄ (fun f s₅ h₅ => ?_) fun _ _ e => e) fun _ _ e => e)
    have fin : (∃ h' tk', s₅ = Sh s₁ h' tk' ∧ Inv (i + 1) h' ∧ h'.get? s₁.heap.objs.size = some oI) →
        ∃ h' tk', s₅ = Sh s₁ h' tk' ∧ Inv (i + 1) h' ∧ ∀ b ∈ [s₁.heap.objs.size], ∀ o, h.get? b = some o → h'.get? b = some o := by
      rintro ⟨h', tk', rfl, a, b⟩
      refine ⟨h', tk', rfl, a, fun p hp o e => ?_⟩
      rw [List.mem_singleton.mp hp] at e ⊢
      rw [hoI] at e
      exact b.trans e
    cases f with
    | next => exact fin h₅
    | cont => exact fin h₅
    | brk => exact h₅
    | ret v => exact h₅
  · intro h tk hI
    exact done h tk hI

theorem call_b1 {x : Str} {np pos : Pos} {e : Expr} {id : String} {Q : Value → Shared → Prop}
    (h : wpAny (model prog w) A (eval (.Name x np) env) (fun f s₁ => f = .builtin id ∧ wpAny (model prog w) A (eval e env) (fun v s₂ => wpAny (model prog w) A (call (.builtin id) [v]) Q E s₂) E s₁) E s)
    (hst : backTo pos (starEach [e] env) = [(false, eval e env)] := by rfl) : wpAny (model prog w) A (eval (.Call (.Name x np) [e] [] pos) env) Q E s := by
  refine wpAny_Call_ofName (wpAny_mono h (fun f s₁ h₁ => ?_) fun _ _ e => e)
  obtain ⟨rfl, h₁⟩ := h₁
  rw [hst]
  exact Calls.callWith_builtin rfl (Calls.evalArgs_plain (Calls.spliced_cons (wpAny_mono h₁ (fun v s₂ h₂ => Calls.spliced_nil h₂) fun _ _ e => e)))
theorem call_t1 {x : Str} {np pos : Pos} {e : Expr} {T : String} {Q : Value → Shared → Prop}
    (h : wpAny (model prog w) A (eval (.Name x np) env) (fun f s₁ => f = .type T ∧ wpAny (model prog w) A (eval e env) (fun v s₂ => wpAny (model prog w) A (call (.type T) [v]) Q E s₂) E s₁) E s)
    (hst : backTo pos (starEach [e] env) = [(false, eval e env)] := by rfl) : wpAny (model prog w) A (eval (.Call (.Name x np) [e] [] pos) env) Q E s := by
  refine wpAny_Call_ofName (wpAny_mono h (fun f s₁ h₁ => ?_) fun _ _ e => e)
  obtain ⟨rfl, h₁⟩ := h₁
  rw [hst]
  exact PySem.callWith_type rfl (Calls.evalArgs_plain (Calls.spliced_cons (wpAny_mono h₁ (fun v s₂ h₂ => Calls.spliced_nil h₂) fun _ _ e => e)))
theorem call_t2 {x : Str} {np pos : Pos} {e e' : Expr} {T : String} {Q : Value → Shared → Prop}
    (h : wpAny (model prog w) A (eval (.Name x np) env) (fun f s₁ => f = .type T ∧ wpAny (model prog w) A (eval e env) (fun v s₂ => wpAny (model prog w) A (eval e' env) (fun v' s₃ => wpAny (model prog w) A (call (.type T) [v, v']) Q E s₃) E s₂) E s₁) E s)
    (hst : backTo pos (starEach [e, e'] env) = [(false, eval e env), (false, eval e' env)] := by rfl) : wpAny (model prog w) A (eval (.Call (.Name x np) [e, e'] [] pos) env) Q E s := by
  refine wpAny_Call_ofName (wpAny_mono h (fun f s₁ h₁ => ?_) fun _ _ e => e)
  obtain ⟨rfl, h₁⟩ := h₁
  rw [hst]
  exact PySem.callWith_type rfl (Calls.evalArgs_plain (Calls.spliced_cons (wpAny_mono h₁ (fun v s₂ h₂ => Calls.spliced_cons (wpAny_mono h₂ (fun v' s₃ h₃ => Calls.spliced_nil h₃) fun _ _ e => e)) fun _ _ e => e)))
theorem call_t3 {x : Str} {np pos : Pos} {e e' e'' : Expr} {T : String} {Q : Value → Shared → Prop}
    (h : wpAny (model prog w) A (eval (.Name x np) env) (fun f s₁ => f = .type T ∧ wpAny (model prog w) A (eval e env) (fun v s₂ => wpAny (model prog w) A (eval e' env) (fun v' s₃ => wpAny (model prog w) A (eval e'' env) (fun v'' s₄ => wpAny (model prog w) A (call (.type T) [v, v', v'']) Q E s₄) E s₃) E s₂) E s₁) E s)
    (hst : backTo pos (starEach [e, e', e''] env) = [(false, eval e env), (false, eval e' env), (false, eval e'' env)] := by rfl) : wpAny (model prog w) A (eval (.Call (.Name x np) [e, e', e''] [] pos) env) Q E s := by
  refine wpAny_Call_ofName (wpAny_mono h (fun f s₁ h₁ => ?_) fun _ _ e => e)
  obtain ⟨rfl, h₁⟩ := h₁
  rw [hst]
  exact PySem.callWith_type rfl (Calls.evalArgs_plain (Calls.spliced_cons (wpAny_mono h₁ (fun v s₂ h₂ => Calls.spliced_cons (wpAny_mono h₂ (fun v' s₃ h₃ => Calls.spliced_cons (wpAny_mono h₃ (fun v'' s₄ h₄ => Calls.spliced_nil h₄) fun _ _ e => e)) fun _ _ e => e)) fun _ _ e => e)))

theorem rng1 {n : Int} {t : Tok} {Q : Value → Shared → Prop} (h : ∀ h' r tk t u v, IsRange h' r 0 n 1 t u v → KA s.heap h' → Q (.ref r) (Sh s h' tk)) : wpAny (model prog w) A (call (.type "range") [.int n t]) Q E s :=
  call_range_1 (h _ _ _ _ _ _ (IsRange.new ..) (KA.push _ _))
theorem rng2 {a b : Int} {t u : Tok} {Q : Value → Shared → Prop} (h : ∀ h' r tk t u v, IsRange h' r a b 1 t u v → KA s.heap h' → Q (.ref r) (Sh s h' tk)) : wpAny (model prog w) A (call (.type "range") [.int a t, .int b u]) Q E s :=
  call_range_2 (h _ _ _ _ _ _ (IsRange.new ..) (KA.push _ _))
theorem rng3 {a b : Int} {t u v : Tok} {Q : Value → Shared → Prop} (h : ∀ h' r tk t u v, IsRange h' r a b (-1) t u v → KA s.heap h' → Q (.ref r) (Sh s h' tk)) : wpAny (model prog w) A (call (.type "range") [.int a t, .int b u, .int (-1) v]) Q E s :=
  call_range_3 (by decide) (h _ _ _ _ _ _ (IsRange.new ..) (KA.push _ _)) (.inl (PyProof.noPylong_of_log2 (by decide +kernel)))

theorem range_small {a b : Int} (ha : -1000 ≤ a ∧ a ≤ 1000) (hb : -1000 ≤ b ∧ b ≤ 1000) : Builtin.Range.small a b 1 = true := by
  have h := rangeSize_nat a b
  unfold Builtin.Range.small
  rw [h]
  unfold Builtin.Range.rangeFitsLong
  simp only [show (1 : Int) > 0 from by decide, if_true, Bool.and_eq_true, Bool.or_eq_true, decide_eq_true_eq]
  omega
theorem rangeSize_down {a : Int} (ha : 0 ≤ a) : Builtin.Range.rangeSize a 0 (-1) = a := by
  unfold Builtin.Range.rangeSize
  rw [if_neg (by decide)]
  split <;> (try simp) <;> omega
theorem range_small_down {a : Int} (ha : 0 ≤ a ∧ a ≤ 1000) : Builtin.Range.small a 0 (-1) = true := by
  unfold Builtin.Range.small
  rw [rangeSize_down ha.1]
  unfold Builtin.Range.rangeFitsLong
  simp only [show ¬ ((-1 : Int) > 0) from by decide, if_false, Bool.and_eq_true, Bool.or_eq_true, decide_eq_true_eq]
  omega
end

/-- a text from its signs' numbers -/
def S (l : List Nat) : Str := ⟨l.toArray⟩
theorem S_inj {a b : List Nat} (h : S a = S b) : a = b := by
  have := congrArg (fun x => x.cps.toList) h
  simpa [S] using this
theorem S_length (l : List Nat) : (S l).length = l.length := by simp [S, Str.length]
theorem S_snoc (l : List Nat) (c : Nat) : S l ++ (⟨#[c]⟩ : Str) = S (l ++ [c]) := by
  show Str.append (S l) ⟨#[c]⟩ = _
  simp [Str.append, S]
theorem S_nil : (Str.ofString "") = S [] := by decide

def letter (x : Int) (k : Nat) : Nat := if k = 0 then 97 + ((x.fdiv 5).fmod 4).toNat else 97 + (((x.fdiv 20).fdiv (2 ^ (k - 1))).fmod 2).toNat
def wayL (x : Int) : List Nat := (List.range (x.fmod 5).toNat).map (letter x)
def downB (x : Int) : Bool := decide ((x.fdiv 5).fmod 4 < 2) == (x.fmod 7 != 0)

end Mine

namespace Mine
def wayBody : List Stmt := fnBody (topS 3)
def wayScope : Scope := fnScope (topS 3)

theorem abcd_at {i : Int} (h0 : 0 ≤ i) (h4 : i < 4) : (seqIndex? i (Str.ofString "abcd").length).bind ((Str.ofString "abcd").cps[·]?) = some (97 + i.toNat) := by
  have : i = 0 ∨ i = 1 ∨ i = 2 ∨ i = 3 := by omega
  rcases this with rfl | rfl | rfl | rfl <;> decide
theorem ab_at {i : Int} (h0 : 0 ≤ i) (h4 : i < 2) : (seqIndex? i (Str.ofString "ab").length).bind ((Str.ofString "ab").cps[·]?) = some (97 + i.toNat) := by
  have : i = 0 ∨ i = 1 := by omega
  rcases this with rfl | rfl <;> decide
theorem idx_fits {i : Int} (h0 : 0 ≤ i) (h4 : i < 4) : (decide (i < -(2 ^ 63 : Int)) || decide (i ≥ 2 ^ 63)) = false := by
  have h1 : ¬ (i < -(2 ^ 63 : Int)) := by omega
  have h2 : ¬ (i ≥ 2 ^ 63) := by omega
  simp only [h1, h2, decide_false, Bool.or_false]

section
variable {prog : Program} {w : World} {A : Around} {E : Value → Shared → Prop} {s : Shared} {env : Env}

/-- an int name modulo, floor-divided ... by a written int -/
theorem bin_const {l : Expr} {op : Operator} {b : Int} {kk : Nat} {kp pos : Pos} {Q : Value → Shared → Prop}
    (h : wpAny (model prog w) A (eval l env) (fun a s₁ => wpAny (model prog w) A (binaryOp op a (.int b s₁.toks)) Q E { s₁ with toks := s₁.toks + 1 }) E s) :
    wpAny (model prog w) A (eval (.BinOp l op (.Constant (.int b) kk kp) pos) env) Q E s :=
  wpAny_BinOp (wpAny_mono h (fun _ _ h₁ => wpAny_Constant_int h₁) fun _ _ e => e)

theorem way_loop {x : Int} {t : Tok} {m mg mb : Str → Option Value} {tw : Tok} {Q : Flow → Shared → Prop} (hh : A.handled = none) (hsc : env.scope = wayScope) (heg : env.globals = mainGlobals) (heb : env.builtins = builtinsNs)
    (G : Gd s.heap mg mb) (hn : s.heap.Ns env.locals m) (hx : m "x" = some (.int x t)) (hw : m "way" = some (.str (S []) tw))
    (nx : ∀ h' tk m' t', KO (· = env.locals) s.heap h' → h'.Ns env.locals m' → m' "x" = some (.int x t) → m' "way" = some (.str (S (wayL x)) t') → Q .next (Sh s h' tk)) :
    wpAny (model prog w) A (exec (nthS wayBody 1) env) Q E s := by
  have hk : env.scope.kind = .function := by rw [hsc]; rfl
  have kd : ∀ y k, wayScope.names.lookup y = some k → env.kindOf y = some k := fun y k e => by unfold Env.kindOf; rw [hsc]; exact e
  have hLlt : env.locals < s.heap.objs.size := hn.lt
  have hm5 : 0 ≤ x.fmod 5 ∧ x.fmod 5 < 5 := ⟨Int.fmod_nonneg_of_pos x (by decide), Int.fmod_lt_of_pos x (by decide)⟩
  refine for_range hh (call_t1 (nm_builtin hk (kd _ _ rfl) (heg ▸ G.g) G.range0 (heb ▸ G.b) G.range ⟨rfl, ?_⟩))
  refine bin_const (nm hk (kd _ _ rfl) hn hx (PyProof.Rows.mod_int (by decide) ?_))
  refine rng1 fun hr r tkr t₁ u₁ v₁ hrange kr => ?_
  have hLr : env.locals < hr.objs.size := (hn.keeps kr).lt
  refine ⟨r, 0, x.fmod 5, 1, _, _, _, (x.fmod 5).toNat, fun i h => KO (· = env.locals) s.heap h ∧ ∃ m' t', h.Ns env.locals m' ∧ m' "x" = some (.int x t) ∧ m' "way" = some (.str (S ((List.range i).map (letter x))) t'), rfl, hrange, range_small (by omega) (by omega), ?_, ?_, ?_, ?_, ?_⟩
  · rw [rangeSize_nat]; simp
  · intro h' k
    have k' : KA s.heap h' := kr.trans k
    exact ⟨k'.ko, m, tw, hn.keeps k', hx, hw⟩
  · rintro i h h' ⟨a, m', t', e, f⟩ k
    exact ⟨fun p o np e' => k p o (Nat.ne_of_lt (Heap.lt_size (kr p o e'))) (a p o np e'), m', t', e.at' fun o e' => k _ o (Nat.ne_of_lt hLr) e', f⟩
  · rintro i ti h tk o hi ⟨k, m', t', hn', hx', hw'⟩ ho
    have hi4 : i < 5 := by omega
    rw [show (0 : Int) + (i : Nat) * 1 = (i : Int) by omega]
    refine wpAny_assign_Name (st (s := Sh _ h tk) hk (kd _ _ rfl) hn' fun h₁ hn₁ k₁ => ?_)
    refine wpAny_execs_cons (wpAny_Assign_Name (wpAny_BinOp (nm (s := Sh _ h₁ (tk + 1)) hk (kd _ _ rfl) hn₁ (v := .str (S ((List.range i).map (letter x))) t') (by rw [up, if_neg (by decide)]; exact hw') ?_)))
    -- the sign
    have hend : ∀ (tk₂ : Nat) (t₂ : Tok) (cc : Nat), cc = letter x i → wpAny (model prog w) A (binaryOp .Add (.str (S ((List.range i).map (letter x))) t') (.str ⟨#[cc]⟩ t₂))
        (fun v s₁ => wpAny (model prog w) A (storeName env "way" v) (fun _ s₂ => wpAny (model prog w) A (execs [] env) (TurnEnd Q fun s₄ => ∃ h' tk', s₄ = Sh s h' tk' ∧ (KO (· = env.locals) s.heap h' ∧ ∃ m' t', h'.Ns env.locals m' ∧ m' "x" = some (.int x t) ∧ m' "way" = some (.str (S ((List.range (i + 1)).map (letter x))) t')) ∧ h'.get? hr.objs.size = some o) (EIn prog w A env E) s₂) (EIn prog w A env E) s₁) (EIn prog w A env E) (Sh s h₁ tk₂) := by
      rintro tk₂ t₂ cc rfl
      refine PyProof.Rows.add_str (fun t₃ tk₃ => ?_) ?_
      · refine st (s := Sh s h₁ tk₃) hk (kd _ _ rfl) hn₁ fun h₂ hn₂ k₂ => wpAny_execs_nil ⟨h₂, _, rfl, ⟨(k.trans k₁).trans k₂, _, t₃, hn₂, ?_, ?_⟩, ?_⟩
        · rw [up, if_neg (by decide), up, if_neg (by decide)]; exact hx'
        · rw [up, if_pos rfl, S_snoc, List.range_succ, List.map_append]; rfl
        · exact k₂ _ o (Nat.ne_of_gt hLr) (k₁ _ o (Nat.ne_of_gt hLr) ho)
      · rw [S_length, List.length_map, List.length_range, show sizeLine = 2 ^ 24 from rfl]
        show i + 1 ≤ 2 ^ 24
        omega
    have hx₁ : up m' "place" (.int (i : Int) ti) "x" = some (.int x t) := by rw [up, if_neg (by decide)]; exact hx'
    have hp₁ : up m' "place" (.int (i : Int) ti) "place" = some (.int (i : Int) ti) := by rw [up, if_pos rfl]
    refine wpAny_IfExp (wpAny_isTrue_Compare1 (nm (s := Sh _ h₁ (tk + 1)) hk (kd _ _ rfl) hn₁ hp₁ (wpAny_Constant_int (PyProof.Rows.eq_int (wpAny_truthy_bool ?_)))) rfl)
    by_cases hi0 : i = 0
    · subst hi0
      rw [if_pos (by rfl)]
      refine Subscript_ (wpAny_Constant_str (bin_const (bin_const (nm (s := Sh _ h₁ _) hk (kd _ _ rfl) hn₁ hx₁ (floordiv_int (by decide) (PyProof.Rows.mod_int (by decide) ?_))))))
      have h4 : 0 ≤ (x.fdiv 5).fmod 4 ∧ (x.fdiv 5).fmod 4 < 4 := ⟨Int.fmod_nonneg_of_pos _ (by decide), Int.fmod_lt_of_pos _ (by decide)⟩
      refine tail_any (typeIs_str _ _ _) slot_str_getitem.lookup (PyProof.Rows.getItem_str (idx_fits h4.1 h4.2) (abcd_at h4.1 h4.2) ?_) rfl
      exact hend _ _ _ rfl
    · rw [if_neg (by simp; omega)]
      refine Subscript_ (wpAny_Constant_str (bin_const (wpAny_BinOp (bin_const (nm (s := Sh _ h₁ _) hk (kd _ _ rfl) hn₁ hx₁ (floordiv_int (by decide) ?_))))))
      refine wpAny_BinOp (wpAny_Constant_int (bin_const (nm (s := Sh _ h₁ _) hk (kd _ _ rfl) hn₁ hp₁ (PyProof.Rows.sub_int ?_))))
      have hpw : ((i : Int) - 1).toNat = i - 1 := by omega
      refine pow_int (by omega) ?_ ?_
      · show (2 : Int) * ((i : Int) - 1) ≤ 2 ^ 27
        omega
      have hne : (2 : Int) ^ ((i : Int) - 1).toNat ≠ 0 := Int.ne_of_gt (Int.pow_pos (by decide))
      refine floordiv_int hne (PyProof.Rows.mod_int (by decide) ?_) ?_
      · have h2 : 0 ≤ ((x.fdiv 20).fdiv (2 ^ ((i : Int) - 1).toNat)).fmod 2 ∧ ((x.fdiv 20).fdiv (2 ^ ((i : Int) - 1).toNat)).fmod 2 < 2 := ⟨Int.fmod_nonneg_of_pos _ (by decide), Int.fmod_lt_of_pos _ (by decide)⟩
        refine tail_any (typeIs_str _ _ _) slot_str_getitem.lookup (PyProof.Rows.getItem_str (idx_fits h2.1 (by omega)) (ab_at h2.1 h2.2) ?_) rfl
        have hl : letter x i = 97 + (((x.fdiv 20).fdiv (2 ^ ((i : Int) - 1).toNat)).fmod 2).toNat := by rw [letter, if_neg hi0, hpw]
        exact hend _ _ _ hl.symm
      · refine .inl (PyProof.noPylong_small ?_)
        have h4 : i = 1 ∨ i = 2 ∨ i = 3 ∨ i = 4 := by omega
        rcases h4 with rfl | rfl | rfl | rfl <;> decide
  · rintro h tk ⟨k, m', t', hn', hx', hw'⟩
    exact wpAny_execs_nil (nx h tk m' t' k hn' hx' hw')

/-- a plain def of one parameter stands at f -/
def FnAt (h : Heap) (f : Addr) (body : List Stmt) (scope : Scope) (par : Str) : Prop :=
  ∃ o fd, h.get? f = some o ∧ o.data = .func fd ∧ h.CodeRec fd.code fd.qualname ∧ fd.body = .stmts body ∧ fd.scope = scope ∧ fd.globals = mainGlobals ∧ fd.builtins = builtinsNs ∧ fd.closure = [] ∧
    ∀ v, bindArgs fd ⟨[v], []⟩ = pure [(par, v)]
theorem FnAt.keeps {h h' : Heap} {f : Addr} {body : List Stmt} {scope : Scope} {par : Str} (x : FnAt h f body scope par) (k : KA h h') : FnAt h' f body scope par := by
  obtain ⟨o, fd, a, b, c, r⟩ := x
  exact ⟨o, fd, k _ _ a, b, c.keeps k, r⟩

theorem way_call {f : Addr} {x : Int} {t : Tok} {mg mb : Str → Option Value} {Q : Value → Shared → Prop} (hh : A.handled = none) (hroom : A.depth < recursionLimit) (G : Gd s.heap mg mb)
    (hf : FnAt s.heap f wayBody wayScope "x")
    (nx : ∀ h' tk T t', s.heap.get? T = none → h'.get? T = some { cls := .type "tuple", data := .seq #[.bool (downB x), .str (S (wayL x)) t'] } → KA s.heap h' → Q (.ref T) (Sh s h' tk)) :
    wpAny (model prog w) A (call (.ref f) [.int x t]) Q E s := by
  obtain ⟨o, fd, ho, hd, hcd, hbody, hscope, hgl, hbu, hcl, hbind⟩ := hf
  refine wpAny_call (codeAny_call_def hroom ho hd G.lim hcd hbody (BindsTo.of_eq (hbind _)) (by rw [hscope]; decide) ?_ ?_ (by rw [hscope]; rfl) (by rw [hscope]; rfl) (by rw [hscope]; rfl))
  · intro x hx
    rw [List.mem_singleton.mp hx, hscope]; rfl
  intro h₀ hn₀ k₀
  have hLn : s.heap.get? s.heap.objs.size = none := Heap.get?_none_of_le (Nat.le_refl _)
  have hsc : (callEnv fd s.heap.objs.size f).scope = wayScope := hscope
  have hk : (callEnv fd s.heap.objs.size f).scope.kind = .function := by rw [hsc]; rfl
  have kd : ∀ y k, wayScope.names.lookup y = some k → (callEnv fd s.heap.objs.size f).kindOf y = some k := fun y k e => by unfold Env.kindOf; rw [hsc]; exact e
  refine wpAny_execs_cons (wpAny_Assign_Name (wpAny_Constant_str (st (s := Sh s h₀ _) hk (kd _ _ rfl) hn₀ fun h₁ hn₁ k₁ => ?_)))
  have ka : ∀ {h'}, KO (· = s.heap.objs.size) h₀ h' → KA s.heap h' := fun k b o' e => k b o' (Ne.symm (ne_of_none_some hLn e)) (k₀ b o' e)
  have k01 : KO (· = s.heap.objs.size) h₀ h₁ := k₁
  refine wpAny_execs_cons (way_loop (s := Sh s h₁ _) hh hsc hgl hbu (G.keeps (ka k01)) hn₁ (x := x) (t := t) (by rw [up, if_neg (by decide)]; rfl) (by rw [up, if_pos rfl, S_nil]) ?_)
  intro h₂ tk₂ m₂ t₂ k₂ hn₂ hx₂ hw₂
  have k02 : KA s.heap h₂ := ka (k01.trans k₂)
  refine wpAny_execs_cons (wpAny_Return_some (wpAny_Tuple (Calls.spliced_cons ?_)))
  refine wpAny_Compare1 (wpAny_Compare1 (bin_const (bin_const (nm (s := Sh s h₂ tk₂) hk (kd _ _ rfl) hn₂ hx₂ (floordiv_int (by decide) (PyProof.Rows.mod_int (by decide) (wpAny_Constant_int (PyProof.Rows.lt_int ?_))))))))
  refine wpAny_Compare1 (bin_const (nm (s := Sh s h₂ _) hk (kd _ _ rfl) hn₂ hx₂ (PyProof.Rows.mod_int (by decide) (wpAny_Constant_int (PyProof.Rows.ne_int (PyProof.Rows.eq_bool ?_))))))
  refine Calls.spliced_cons (nm (s := Sh s h₂ _) hk (kd _ _ rfl) hn₂ hw₂ (Calls.spliced_nil ⟨(show (2 : Nat) ≤ sizeLine by decide), ?_⟩))
  refine nx _ _ h₂.objs.size t₂ ?_ (Heap.get?_push_size _ rfl) (k02.trans (KA.push _ _))
  cases e : s.heap.get? h₂.objs.size with
  | none => rfl
  | some o' => exact absurd (Heap.lt_size (k02 _ _ e)) (Nat.lt_irrefl _)
end
end Mine

namespace Mine

section
variable {prog : Program} {w : World} {A : Around} {E : Value → Shared → Prop} {s : Shared} {env : Env}

/-- a comprehension's turn that yields a text, or nothing: C its frame, I the iterator -/
def TurnS {α : Type} (prog : Program) (w : World) (A : Around) (env : Env) (scope : Scope) (cl : List (Str × Addr)) (target : Expr) (ifs : List Expr) (elt : Expr) (s₁ : Shared) (xs : List α) (vs : List Value)
    (p : α → Bool) (g : α → Str) : Prop :=
  ∀ (i : Nat) x v h tk m C I l j E', xs[i]? = some x → vs[i]? = some v → KA s₁.heap h → s₁.heap.get? C = none → h.Ns C m → h.IsListIter I l j →
    wpAny (model prog w) A (letOwnedTupleGo target (.ref I) v) (fun _ s' => wpAny (model prog w) A (assign target (compEnvC scope cl C env) v) (fun _ s₃ =>
      wpAny (model prog w) A (tests ifs (compEnvC scope cl C env)) (fun ok s₄ => ok = p x ∧ ∃ h₄ tk₄ m₄, s₄ = Sh s₁ h₄ tk₄ ∧ h₄.Ns C m₄ ∧ KO (· = C) h h₄ ∧
        (p x = true → wpAny (model prog w) A (eval elt (compEnvC scope cl C env)) (fun y s₅ => ∃ t h₅ tk₅ m₅, y = .str (g x) t ∧ s₅ = Sh s₁ h₅ tk₅ ∧ h₅.Ns C m₅ ∧ KO (· = C) h h₅) E' s₄)) E' s₃) E' s') E' (Sh s₁ h tk)

theorem ask_strs {α : Type} {elt target : Expr} {ifs : List Expr} {scope : Scope} {cl : List (Str × Addr)} {s₁ : Shared} {xs : List α} {vs : List Value} {p : α → Bool} {g : α → Str} {l : Addr}
    {Fin : Shared → (List Value → Heap → Prop) → List Addr → Prop}
    (hh : A.handled = none) (hl : s₁.heap.IsList l vs.toArray) (hlen : vs.length = xs.length) (hsz : vs.length ≤ 1000) (T : TurnS prog w A env scope cl target ifs elt s₁ xs vs p g)
    (fin : ∀ h₂, KA s₁.heap h₂ → s₁.heap.objs.size < h₂.objs.size → Fin (Sh s₁ h₂ s₁.toks) (fun ys _ => Strs ys ((xs.filter p).map g)) [s₁.heap.objs.size]) :
    wpAny (model prog w) A (pyIter (.ref l)) (fun it s₂ => CompAsk prog w A env scope cl target ifs elt it s₂ (Fin s₂)) E s₁ := by
  refine wpAny_pyIter_list hl ?_
  have hlt : l < s₁.heap.objs.size := let ⟨_, ho, _⟩ := hl; Heap.lt_size ho
  have W := Walks.list (prog := prog) (w := w) hh s₁.heap.objs.size l (Nat.ne_of_lt hlt) vs.toArray
  have hC : (s₁.heap.push { cls := .type "list_iterator", data := .fields #[.ref l, .int 0 0] }).objs.size = s₁.heap.objs.size + 1 := Heap.size_push ..
  refine ⟨_, _, _, _, _, _, fun i ys _ => Strs ys (((xs.take i).filter p).map g), rfl, W, ?_, ⟨⟨_, Heap.get?_push_size _ rfl, rfl, rfl⟩, hl.at fun o e => Heap.get?_push_of_some _ e⟩, ?_, ?_, ?_, ?_, ?_⟩
  · rw [List.size_toArray, show sizeLine = 2 ^ 24 from rfl]; omega
  · intro b hb
    rw [hC]
    rcases List.mem_cons.mp hb with rfl | hb
    · exact Nat.lt_succ_self _
    · rw [List.mem_singleton.mp hb]; exact Nat.lt_succ_of_lt hlt
  · intro h' k; exact Strs.nil
  · intro i ys h h' e k; exact e
  · intro i v ys h tk m' E' hi hP hys hSt hns hpl hko
    have hv : vs[i]? = some v := by simpa using hP
    have hi' : i < xs.length := by rw [← hlen]; exact (List.getElem?_eq_some_iff.mp hv).1
    have hx : xs[i]? = some xs[i] := List.getElem?_eq_getElem hi'
    have ka : KA s₁.heap h := fun b o e => hko b o (fun q => Nat.lt_irrefl _ (List.mem_singleton.mp q ▸ Heap.lt_size e)) (Heap.get?_push_of_some _ e)
    refine wpAny_mono (T i xs[i] v h tk m' _ _ _ _ E' hx hv ka (Heap.get?_none_of_le (by dsimp only; rw [hC]; exact Nat.le_succ_of_le (Nat.le_succ _))) hns hSt.1) (fun _ s' h₁ => wpAny_mono h₁ (fun _ s₃ h₃ => wpAny_mono h₃ (fun ok s₄ h₄ => ?_) fun _ _ e => e) fun _ _ e => e) fun _ _ e => e
    obtain ⟨rfl, h₄', tk₄, m₄, rfl, hn₄, k₄, hy⟩ := h₄
    have htake : xs.take (i + 1) = xs.take i ++ [xs[i]] := by rw [List.take_add_one, hx]; rfl
    by_cases hp : p xs[i] = true
    · rw [if_pos hp]
      refine wpAny_mono (hy hp) (fun y s₅ h₅ => ?_) fun _ _ e => e
      obtain ⟨t, h₅', tk₅, m₅, rfl, rfl, hn₅, k₅⟩ := h₅
      refine ⟨h₅', tk₅, m₅, rfl, ?_, hn₅, k₅⟩
      dsimp only
      rw [htake, List.filter_append, List.map_append]
      have : ([xs[i]].filter p).map g = [g xs[i]] := by simp [hp]
      rw [this]
      exact hys.snoc _ _
    · rw [if_neg hp]
      refine ⟨h₄', tk₄, m₄, rfl, ?_, hn₄, k₄⟩
      dsimp only
      rw [htake, List.filter_append, List.map_append]
      have : ([xs[i]].filter p).map g = [] := by simp [hp]
      rw [this, List.append_nil]
      exact hys
  · have := fin (s₁.heap.push { cls := .type "list_iterator", data := .fields #[.ref l, .int 0 0] }) (KA.push _ _) (by rw [hC]; exact Nat.lt_succ_self _)
    rw [List.size_toArray, hlen]
    show Fin _ (fun ys _ => Strs ys (((xs.take xs.length).filter p).map g)) _
    rw [List.take_length]
    exact this

theorem comp_strs_eval {α : Type} {elt target iter : Expr} {ifs : List Expr} {scope : Scope} {cl : List (Str × Addr)} {pos : Pos} {Q : Value → Shared → Prop} (p : α → Bool) (g : α → Str) (xs : List α)
    (hh : A.handled = none) (hclos : closureFor scope env = pure cl) (hcell : ∀ y ∈ scope.names, y.2 ≠ .cell) (hkind : scope.kind = .function)
    (hnames : ∀ y ∈ scope.names, y.2 = .local → scope.names.lookup y.1 = some .local)
    (h : wpAny (model prog w) A (eval iter env) (fun xv s₁ => ∃ l, ∃ vs : List Value, xv = .ref l ∧ s₁.heap.IsList l vs.toArray ∧ vs.length = xs.length ∧ vs.length ≤ 1000 ∧ TurnS prog w A env scope cl target ifs elt s₁ xs vs p g ∧
      ∀ h' tk D, s₁.heap.get? D = none → RowAt h' D ((xs.filter p).map g) → KA s₁.heap h' → Q (.ref D) (Sh s₁ h' tk)) E s)
    (hs : ∀ x, foldedSetIterable iter env x = pure x := by intro _; rfl) :
    wpAny (model prog w) A (eval (.ListComp elt [⟨target, iter, ifs, 0⟩] scope pos) env) Q E s := by
  refine comp_eval hclos hcell hkind hnames (wpAny_mono h (fun xv s₁ h₁ => ?_) fun _ _ e => e) hs
  obtain ⟨l, vs, rfl, hl, hlen, hsz, T, fin⟩ := h₁
  refine ask_strs (Fin := fun s₂ Inv wr => ∀ h' tk ys, Inv ys h' → h'.PlainList s₂.heap.objs.size ys.toArray → KO (· ∈ wr) s₂.heap h' → Q (.ref s₂.heap.objs.size) (Sh s₂ h' tk)) hh hl hlen hsz T ?_
  intro h₂ k₂ hlt h' tk ys hys hpl hko
  refine fin h' tk h₂.objs.size (Heap.get?_none_of_le (Nat.le_of_lt hlt)) ⟨ys, hpl, hys⟩ fun b o e => hko b o (fun q => Nat.lt_irrefl _ (List.mem_singleton.mp q ▸ Heap.lt_size e)) (k₂ b o e)

theorem comp_strs_assign {α : Type} {elt target iter : Expr} {ifs : List Expr} {scope : Scope} {cl : List (Str × Addr)} {y : Str} {py pos spos : Pos} {Q : Flow → Shared → Prop} (p : α → Bool) (g : α → Str) (xs : List α)
    (hh : A.handled = none) (hsw : swapsWith (.ListComp elt [⟨target, iter, ifs, 0⟩] scope pos) (some (.Name y py)) spos.line env = pure true)
    (hclos : closureFor scope env = pure cl) (hcell : ∀ z ∈ scope.names, z.2 ≠ .cell) (hkind : scope.kind = .function)
    (hnames : ∀ z ∈ scope.names, z.2 = .local → scope.names.lookup z.1 = some .local)
    (hy : env.kindOf y = some .local) (hp : (env.scope.kind == .class || (env.scope.kind == .module && env.locals != env.globals)) = false)
    (h : wpAny (model prog w) A (eval iter env) (fun xv s₁ => ∃ l, ∃ vs : List Value, ∃ m, xv = .ref l ∧ s₁.heap.IsList l vs.toArray ∧ vs.length = xs.length ∧ vs.length ≤ 1000 ∧ s₁.heap.Ns env.locals m ∧ TurnS prog w A env scope cl target ifs elt s₁ xs vs p g ∧
      ∀ h' tk D, s₁.heap.get? D = none → RowAt h' D ((xs.filter p).map g) → h'.Ns env.locals (up m y (.ref D)) → KO (· = env.locals) s₁.heap h' → Q .next (Sh s₁ h' tk)) E s)
    (hs : ∀ x, foldedSetIterable iter env x = pure x := by intro _; rfl) :
    wpAny (model prog w) A (exec (.Assign [.Name y py] (.ListComp elt [⟨target, iter, ifs, 0⟩] scope pos) spos) env) Q E s := by
  refine comp_assign hsw hclos hcell hkind hnames hy hp (wpAny_mono h (fun xv s₁ h₁ => ?_) fun _ _ e => e) hs
  obtain ⟨l, vs, m, rfl, hl, hlen, hsz, hm, T, fin⟩ := h₁
  have hLlt := hm.lt
  refine ask_strs (Fin := fun s₂ Inv wr => ∃ m, env.locals ∉ wr ∧ s₂.heap.Ns env.locals m ∧
      ∀ h' tk ys, Inv ys h' → h'.PlainList s₂.heap.objs.size ys.toArray → h'.Ns env.locals (fun z => if z = y then some (.ref s₂.heap.objs.size) else m z) → KO (fun b => b ∈ wr ∨ b = env.locals) s₂.heap h' → Q .next (Sh s₂ h' tk)) hh hl hlen hsz T ?_
  intro h₂ k₂ hlt
  refine ⟨m, fun q => Nat.lt_irrefl _ (List.mem_singleton.mp q ▸ hLlt), hm.keeps k₂, ?_⟩
  intro h' tk ys hys hpl hns hko
  refine fin h' tk h₂.objs.size (Heap.get?_none_of_le (Nat.le_of_lt hlt)) ⟨ys, hpl, hys⟩ hns fun b o nb e => hko b o (fun q => ?_) (k₂ b o e)
  rcases q with q | q
  · exact Nat.lt_irrefl _ (List.mem_singleton.mp q ▸ Heap.lt_size e)
  · exact nb q
end
end Mine

namespace Mine

theorem picked_to (l : List Nat) (n : Nat) (u : Tok) : slicePicked (S l) none (some ((n : Int), u)) none = (List.range (min n l.length)).map (0 + ·) := by
  have h := sliceRange_one 0 (min n l.length)
  have e : slicePicked (S l) none (some ((n : Int), u)) none = sliceRange ((0 : Nat) : Int) ((min n l.length : Nat) : Int) 1 := by
    unfold slicePicked Builtin.Str.strSliceIndices
    rw [S_length]
    have h1 : ¬ ((n : Int) < 0) := by omega
    simp only [Option.map_none, Option.map_some, Option.getD_none, h1, if_false, show (1 : Int) > 0 from by decide, if_true]
    congr 1
    omega
  rw [e, h, Nat.sub_zero]
theorem made_to {l : List Nat} {n : Nat} {t u : Tok} {s : Shared} {Q : Value → Shared → Prop} (hl : l.length ≤ 1000) (h : ∀ tk t', Q (.str (S (l.take n)) t') { s with toks := tk }) :
    (sliceMade (S l) t none (some ((n : Int), u)) none).post Q s := by
  unfold sliceMade
  have hp := picked_to l n u
  have hlen : (slicePicked (S l) none (some ((n : Int), u)) none).length = min n l.length := by rw [hp]; simp
  have hpick : (slicePicked (S l) none (some ((n : Int), u)) none).filterMap ((S l).cps[·]?) = l.take n := by
    rw [hp, pick_run (S l).cps 0 (min n l.length)]
    simp only [S, List.drop_zero]
    rw [← List.take_take, List.take_length]
  split
  · rename_i hc
    rw [hlen, S_length] at hc
    simp only [Option.map_none, Option.getD_none, Bool.and_eq_true, beq_iff_eq] at hc
    have : l.take n = l := List.take_of_length_le (by omega)
    have hq := h s.toks t
    rw [this] at hq
    exact hq
  · rw [hpick]
    have hz : (S (l.take n)).length ≤ sizeLine := by rw [S_length, List.length_take, show sizeLine = 2 ^ 24 from rfl]; omega
    exact ⟨hz, h _ _⟩

/-- h: the frame's names m and cells cm; W: its own addresses -/
structure FrC (env : Env) (h : Heap) (m cm : Str → Option Value) : Prop where
  ns : h.Ns env.locals m
  cell : ∀ n c, env.cells.lookup n = some c → h.IsCell c (cm n)
def Own (env : Env) (b : Addr) : Prop := b = env.locals ∨ ∃ n, env.cells.lookup n = some b
structure EnvC (env : Env) : Prop where
  kind : env.scope.kind = .function
  apart : ∀ n n' c, env.cells.lookup n = some c → env.cells.lookup n' = some c → n = n'
  off : ∀ n c, env.cells.lookup n = some c → c ≠ env.locals

theorem FrC.ko {env : Env} {h h' : Heap} {m cm : Str → Option Value} {W : Addr → Prop} (x : FrC env h m cm) (k : KO W h h') (n : ∀ b, Own env b → ¬ W b) : FrC env h' m cm :=
  ⟨x.ns.at' fun o e => k _ o (n _ (.inl rfl)) e, fun n' c hc => let ⟨o, ho, hd⟩ := x.cell n' c hc; ⟨o, k _ o (n _ (.inr ⟨n', hc⟩)) ho, hd⟩⟩
theorem FrC.ka {env : Env} {h h' : Heap} {m cm : Str → Option Value} (x : FrC env h m cm) (k : KA h h') : FrC env h' m cm := ⟨x.ns.keeps k, fun n c hc => (x.cell n c hc).keeps k⟩
theorem FrC.lt {env : Env} {h : Heap} {m cm : Str → Option Value} (x : FrC env h m cm) : ∀ b, Own env b → b < h.objs.size := by
  rintro b (rfl | ⟨n, hc⟩)
  · exact x.ns.lt
  · obtain ⟨o, ho, _⟩ := x.cell n b hc
    exact Heap.lt_size ho
theorem FrC.ne_list {env : Env} {h : Heap} {m cm : Str → Option Value} (x : FrC env h m cm) {a : Addr} {items : Array Value} (hl : h.IsList a items) : ¬ Own env a := by
  rintro (rfl | ⟨n, hc⟩)
  · exact list_ne_ns hl x.ns rfl
  · obtain ⟨o, ho, hd⟩ := x.cell n a hc
    obtain ⟨o', ho', _, n', hd'⟩ := hl
    rw [ho] at ho'; cases ho'; rw [hd] at hd'; cases hd'
theorem FrC.ne_row {env : Env} {h : Heap} {m cm : Str → Option Value} (x : FrC env h m cm) {a : Addr} {xs : List Str} (hr : RowAt h a xs) : ¬ Own env a := let ⟨_, p, _⟩ := hr; x.ne_list p.isList
theorem FrC.ne_tup {env : Env} {h : Heap} {m cm : Str → Option Value} (x : FrC env h m cm) {a : Addr} {items : Array Value} {d : Value} (hl : h.get? a = some { cls := d, data := .seq items }) : ¬ Own env a := by
  rintro (rfl | ⟨n, hc⟩)
  · obtain ⟨o, _, _, ho, hd, _⟩ := x.ns
    rw [hl] at ho; cases ho; cases hd
  · obtain ⟨o, ho, hd⟩ := x.cell n a hc
    rw [ho] at hl; cases hl; cases hd

section
variable {prog : Program} {w : World} {A : Around} {E : Value → Shared → Prop} {s : Shared} {env : Env}

theorem slice_to {value upper : Expr} {p pos : Pos} {Q : Value → Shared → Prop}
    (h : wpAny (model prog w) A (eval value env) (fun o s₁ => wpAny (model prog w) A (eval upper env) (fun vu s₂ => ∃ l t, ∃ n : Nat, ∃ u, o = .str (S l) t ∧ vu = .int n u ∧ l.length ≤ 1000 ∧
      ∀ h' tk t', KA s₂.heap h' → Q (.str (S (l.take n)) t') (Sh s₂ h' tk)) E s₁) E s)
    (ht : ∀ o r, letTemporaryGo value o r = pure () := by intro _ _; rfl) :
    wpAny (model prog w) A (eval (.Subscript value (.Slice none (some upper) none p) pos) env) Q E s := by
  refine wpAny_Subscript_str_slice (wpAny_mono h (fun o s₁ h₁ => ?_) fun _ _ e => e) ht
  rw [evalPart_none, evalPart_some]
  refine wpAny_pure (wpAny_mono h₁ (fun vu s₂ h₂ => ?_) fun _ _ e => e)
  obtain ⟨l, t, n, u, rfl, rfl, hl, hq⟩ := h₂
  exact ⟨S l, t, none, some (n, u), rfl, rfl, rfl, made_to hl fun tk t' => hq _ tk t' (KA.push _ _)⟩

theorem nmL {x : Str} {pos : Pos} {v : Value} {m cm : Str → Option Value} {Q : Value → Shared → Prop} (N : EnvC env) (F : FrC env s.heap m cm) (hl : env.kindOf x = some .local)
    (hv : m x = some v) (h : Q v s) (hd : (x == ("__debug__" : Str)) = false := by decide) : wpAny (model prog w) A (eval (.Name x pos) env) Q E s := nm N.kind hl F.ns hv h hd
theorem nmC {x : Str} {pos : Pos} {v : Value} {c : Addr} {m cm : Str → Option Value} {Q : Value → Shared → Prop} (N : EnvC env) (F : FrC env s.heap m cm) (hl : env.kindOf x = some .cell) (hc : env.cells.lookup x = some c)
    (hv : cm x = some v) (h : Q v s) (hd : (x == ("__debug__" : Str)) = false := by decide) : wpAny (model prog w) A (eval (.Name x pos) env) Q E s :=
  wpAny_Name (wpAny_loadName_cell N.kind hl hc (hv ▸ F.cell x c hc) h) hd
theorem stL {x : Str} {v : Value} {m cm : Str → Option Value} {Q : Unit → Shared → Prop} (N : EnvC env) (F : FrC env s.heap m cm) (hl : env.kindOf x = some .local)
    (h : ∀ h' tk, FrC env h' (up m x v) cm → KO (Own env) s.heap h' → Q () (Sh s h' tk)) : wpAny (model prog w) A (storeName env x v) Q E s :=
  st N.kind hl F.ns fun h' hn k => h h' _ ⟨hn, fun n c hc => let ⟨o, ho, hd⟩ := F.cell n c hc; ⟨o, k _ o (N.off n c hc) ho, hd⟩⟩ (k.mono fun _ => .inl)
theorem stC {x : Str} {v : Value} {c : Addr} {m cm : Str → Option Value} {Q : Unit → Shared → Prop} (N : EnvC env) (F : FrC env s.heap m cm) (hl : env.kindOf x = some .cell) (hc : env.cells.lookup x = some c)
    (h : ∀ h' tk, FrC env h' m (up cm x v) → KO (Own env) s.heap h' → Q () (Sh s h' tk)) : wpAny (model prog w) A (storeName env x v) Q E s := by
  refine wpAny_storeName_cell N.kind hl hc (F.cell x c hc) fun h' hc' hs => h h' s.toks ⟨F.ns.sameBut hs (Ne.symm (N.off x c hc)), fun n c' hn => ?_⟩ fun b o nb e => hs.extBut b o (fun q => nb (.inr ⟨x, q ▸ hc⟩)) e
  by_cases hx : n = x
  · subst hx
    rw [hc] at hn; cases hn
    rw [up, if_pos rfl]; exact hc'
  · rw [up, if_neg hx]
    obtain ⟨o, ho, hd⟩ := F.cell n c' hn
    refine ⟨o, (hs.2 c' fun q => hx (N.apart n x c' hn (q ▸ hc))).trans ho, hd⟩

/-- (d, l) as the tuple that stands at v -/
def TupOf (h : Heap) (v : Value) (x : Bool × List Nat) : Prop := ∃ T t, v = .ref T ∧ h.get? T = some { cls := .type "tuple", data := .seq #[.bool x.1, .str (S x.2) t] }
theorem TupOf.at {h h' : Heap} {v : Value} {x : Bool × List Nat} (a : TupOf h v x) (k : ∀ T o, v = .ref T → h.get? T = some o → h'.get? T = some o) : TupOf h' v x :=
  let ⟨T, t, e, p⟩ := a; ⟨T, t, e, k T _ e p⟩
theorem TupOf.ka {h h' : Heap} {v : Value} {x : Bool × List Nat} (a : TupOf h v x) (k : KA h h') : TupOf h' v x := a.at fun T o _ e => k T o e

theorem asg_pair {e1 e2 : Expr} {k : Nat} {pos : Pos} {v : Value} {x : Bool × List Nat} {Q : Unit → Shared → Prop} (hh : A.handled = none) (ht : TupOf s.heap v x)
    (h : ∀ h' tk t, KA s.heap h' → wpAny (model prog w) A (assign e1 env (.bool x.1)) (fun _ s₁ => wpAny (model prog w) A (assign e2 env (.str (S x.2) t)) Q E s₁) E (Sh s h' tk))
    (h1 : assignEach [e1, e2] env = [(false, assign e1 env), (false, assign e2 env)] := by rfl) :
    wpAny (model prog w) A (assign (.Tuple [e1, e2] k pos) env v) Q E s := by
  obtain ⟨T, t, rfl, hT⟩ := ht
  refine PySem.wpAny_assign_Tuple hh (items := #[.bool x.1, .str (S x.2) t]) ⟨_, hT, rfl, _, rfl⟩ (by rw [h1]; rfl) (by rw [h1]; rfl) fun h' hx => ?_
  rw [h1]
  have ka : KA s.heap h' := fun b o e => hx b o (Nat.ne_of_lt (Heap.lt_size e)) e
  refine PyProof.Rows.assignInOrder_cons (wpAny_mono (h h' s.toks t ka) (fun _ s₁ h₁ => ?_) fun _ _ e => e)
  exact PyProof.Rows.assignInOrder_cons (wpAny_mono h₁ (fun _ s₂ h₂ => PyProof.Rows.assignInOrder_nil h₂) fun _ _ e => e)
theorem go_tup {elts : List Expr} {k : Nat} {pos : Pos} {I l : Addr} {j : Nat} {v : Value} {x : Bool × List Nat} {Q : Unit → Shared → Prop} (hit : s.heap.IsListIter I l j) (ht : TupOf s.heap v x) (h : Q () s) :
    wpAny (model prog w) A (letOwnedTupleGo (.Tuple elts k pos) (.ref I) v) Q E s := by
  obtain ⟨T, t, rfl, _⟩ := ht
  exact wpAny_letOwnedTupleGo_listiter hit h
end

/-- the ways, as a list of such tuples that stands at R -/
def WaysAt (h : Heap) (R : Addr) (ws : List (Bool × List Nat)) : Prop := ∃ vs : List Value, h.IsList R vs.toArray ∧ vs.length = ws.length ∧ ∀ (i : Nat) v x, vs[i]? = some v → ws[i]? = some x → TupOf h v x
theorem WaysAt.ka {h h' : Heap} {R : Addr} {ws : List (Bool × List Nat)} (a : WaysAt h R ws) (k : KA h h') : WaysAt h' R ws :=
  let ⟨vs, p, q, r⟩ := a; ⟨vs, p.at fun o e => k R o e, q, fun i v x hv hx => (r i v x hv hx).ka k⟩

def relabelS (scope sc : Scope) : Scope := relabel scope { (default : Env) with scope := sc }
theorem kind_comp {scope sc : Scope} {cl : List (Str × Addr)} {C : Addr} {env : Env} {x : Str} {k : NameKind} (hsc : env.scope = sc) (h : (relabelS scope sc).names.lookup x = some k) : (compEnvC scope cl C env).kindOf x = some k := by
  subst hsc; exact h
end Mine

namespace Mine

def dns (ws : List (Bool × List Nat)) : List (List Nat) := (ws.filter (·.1)).map (·.2)
def firstsL (ds : List (List Nat)) : List (List Nat) := (ds.filter (fun l => l != [])).map (fun l => l.take 1)
def clashL (ws : List (Bool × List Nat)) : List (List Nat) := (ws.filter fun x => !x.1 && decide (x.2.take 1 ∈ firstsL (dns ws))).map (·.2)
def longerL (ds : List (List Nat)) (d : List Nat) : List (List Nat) := ds.filter fun o => o != d && o.take d.length == d
def keptStep (ds kept : List (List Nat)) (d : List Nat) : List (List Nat) := if longerL ds d = [] ∧ d ∉ kept then kept ++ [d] else kept
def keptL (ds : List (List Nat)) : List (List Nat) := ds.foldl (keptStep ds) []
def partStep (later : List (List Nat)) (k : List Nat) (order : List (List Nat)) (size : Nat) : List (List Nat) :=
  if (later.filter fun o => o.take size == k.take size) = [] then order ++ [k.take size] else order
def downsizes (n : Nat) : List Nat := (List.range n).map (n - ·)
def partsOf (later : List (List Nat)) (k : List Nat) (order : List (List Nat)) : List (List Nat) := (downsizes k.length).foldl (partStep later k) order
def placeStep (kept order : List (List Nat)) (place : Nat) : List (List Nat) := partsOf (kept.drop (place + 1)) (kept.getD place []) order
def orderD (kept : List (List Nat)) : List (List Nat) := (List.range kept.length).foldl (placeStep kept) []
def upStep (x : Bool × List Nat) (order : List (List Nat)) (size : Nat) : List (List Nat) := if !x.1 && decide (x.2.take size ∉ order) then order ++ [x.2.take size] else order
def upsOf (order : List (List Nat)) (x : Bool × List Nat) : List (List Nat) := (List.range x.2.length).foldl (fun o i => upStep x o (i + 1)) order
def orderU (ws : List (Bool × List Nat)) (order : List (List Nat)) : List (List Nat) := ws.foldl upsOf order
def dueL (ws : List (Bool × List Nat)) : Option (List (List Nat)) := if clashL ws ≠ [] then none else some (orderU ws (orderD (keptL (dns ws)) ++ [[]]))

/-- the words xs as texts in a list at a -/
def RowL (h : Heap) (a : Addr) (xs : List (List Nat)) : Prop := RowAt h a (xs.map S)
theorem mem_S {l : List Nat} {xs : List (List Nat)} : S l ∈ xs.map S ↔ l ∈ xs := by
  rw [List.mem_map]
  exact ⟨fun ⟨a, ha, e⟩ => S_inj e ▸ ha, fun h => ⟨l, h, rfl⟩⟩
theorem S_beq (a b : List Nat) : (S a == S b) = (a == b) := by
  rw [Bool.eq_iff_iff]; simp only [beq_iff_eq]
  exact ⟨S_inj, fun h => h ▸ rfl⟩
theorem S_bne (a b : List Nat) : (S a != S b) = (a != b) := by unfold bne; rw [S_beq]
theorem map_S_inj {xs ys : List (List Nat)} : xs.map S = ys.map S ↔ xs = ys := by
  refine ⟨fun h => ?_, fun h => h ▸ rfl⟩
  induction xs generalizing ys with
  | nil => cases ys <;> simp at h ⊢
  | cons a r ih => cases ys with
    | nil => simp at h
    | cons b q =>
      simp only [List.map_cons, List.cons.injEq] at h
      rw [S_inj h.1, ih h.2]

section
variable {prog : Program} {w : World} {A : Around} {E : Value → Shared → Prop} {s : Shared} {env : Env}

theorem all_range_eq (xs ys : List Str) (h : xs.length = ys.length) : ((List.range xs.length).all fun j => xs[j]? == ys[j]?) = decide (xs = ys) := by
  rw [Bool.eq_iff_iff]
  simp only [List.all_eq_true, List.mem_range, beq_iff_eq, decide_eq_true_eq]
  refine ⟨fun hh => List.ext_getElem? fun i => ?_, fun e => by subst e; intros; rfl⟩
  by_cases hi : i < xs.length
  · exact hh i hi
  · rw [List.getElem?_eq_none (by omega), List.getElem?_eq_none (by omega)]

theorem rows_eqAt {a : Addr} {xs ys : List Str} {vs ws : List Value} (_ : s.heap.IsList a vs.toArray) (hx : Strs vs xs) (hy : Strs ws ys) :
    ∀ (j : Nat) (h1 : j < vs.toArray.size) (h2 : j < ws.toArray.size), SeqAt.EqAt A.in1 s vs.toArray[j] ws.toArray[j] (xs[j]? == ys[j]?) := by
  intro j h1 h2
  rw [List.size_toArray] at h1 h2
  obtain ⟨x, t, e1, e2⟩ := hx.get' (i := j) (v := vs[j]) (List.getElem?_eq_getElem h1)
  obtain ⟨y, u, e3, e4⟩ := hy.get' (i := j) (v := ws[j]) (List.getElem?_eq_getElem h2)
  simp only [List.getElem_toArray]
  rw [e2, e4, e1, e3]
  have := SeqAt.EqAt.str_str (A := A.in1) (s := s) x t y u
  simpa using this

theorem rcAt_rows {a b : Addr} {xs ys : List Str} (ha : RowAt s.heap a xs) (hb : RowAt s.heap b ys) (hu : A.units < cLine) : SeqAt.RcAt A s (.ref a) (.ref b) (decide (xs = ys)) := by
  obtain ⟨vs, pa, hx⟩ := ha
  obtain ⟨ws, pb, hy⟩ := hb
  by_cases hl : xs.length = ys.length
  · have := SeqAt.RcAt.lists (A := A) pa.isList pb.isList (by rw [List.size_toArray, List.size_toArray, hx.length, hy.length, hl]) hu (rows_eqAt pa.isList hx hy)
    rw [List.size_toArray, hx.length, all_range_eq xs ys hl] at this
    exact this
  · have := SeqAt.RcAt.lists_lengths (A := A) pa.isList pb.isList (by rw [List.size_toArray, List.size_toArray, hx.length, hy.length]; simpa using hl) hu
    rw [show decide (xs = ys) = false from decide_eq_false fun e => hl (e ▸ rfl)]
    exact this
theorem eq_rows {a b : Addr} {xs ys : List Str} {Q : Value → Shared → Prop} (ha : RowAt s.heap a xs) (hb : RowAt s.heap b ys) (hu : A.units < cLine) (h : Q (.bool (decide (xs = ys))) s) :
    wpAny (model prog w) A (compareOp .Eq (.ref a) (.ref b)) Q E s := rcAt_rows ha hb hu prog w E Q h
theorem ne_rows {a b : Addr} {xs ys : List Str} {Q : Value → Shared → Prop} (ha : RowAt s.heap a xs) (hb : RowAt s.heap b ys) (hu : A.units < cLine) (h : Q (.bool (!decide (xs = ys))) s) :
    wpAny (model prog w) A (compareOp .NotEq (.ref a) (.ref b)) Q E s := by
  obtain ⟨vs, pa, hx⟩ := ha
  obtain ⟨ws, pb, hy⟩ := hb
  by_cases hl : xs.length = ys.length
  · have := SeqAt.RcNeAt.lists (A := A) pa.isList pb.isList (by rw [List.size_toArray, List.size_toArray, hx.length, hy.length, hl]) hu (rows_eqAt pa.isList hx hy)
    rw [List.size_toArray, hx.length, all_range_eq xs ys hl] at this
    exact this prog w E Q h
  · have := SeqAt.RcNeAt.lists_lengths (A := A) pa.isList pb.isList (by rw [List.size_toArray, List.size_toArray, hx.length, hy.length]; simpa using hl) hu
    rw [show decide (xs = ys) = false from decide_eq_false fun e => hl (e ▸ rfl)] at h
    exact this prog w E Q h

/-- an empty list written out -/
theorem nil_list {pos : Pos} {Q : Value → Shared → Prop} (h : ∀ h' tk D, s.heap.get? D = none → RowAt h' D [] → KA s.heap h' → Q (.ref D) (Sh s h' tk)) : wpAny (model prog w) A (eval (.List [] pos) env) Q E s :=
  wpAny_List (Calls.spliced_nil ⟨by decide, h _ _ _ (Heap.get?_none_of_le (Nat.le_refl _)) ⟨[], ⟨0, Heap.get?_push_size _ rfl⟩, rfl⟩ (KA.push _ _)⟩)

/-- a read of a cell's name from a comprehension -/
theorem nm_cell {x : Str} {pos : Pos} {v : Value} {c : Addr} {Q : Value → Shared → Prop} (hk : env.scope.kind = .function) (hl : env.kindOf x = some .cell) (hc : env.cells.lookup x = some c)
    (hv : s.heap.IsCell c (some v)) (h : Q v s) (hd : (x == ("__debug__" : Str)) = false := by decide) : wpAny (model prog w) A (eval (.Name x pos) env) Q E s :=
  wpAny_Name (wpAny_loadName_cell hk hl hc hv h) hd
end
end Mine

namespace Mine
def dueBody : List Stmt := fnBody (topS 4)
def dueScope : Scope := fnScope (topS 4)

/-- the frame of _law_due -/
structure DueEnv (env : Env) : Prop where
  N : EnvC env
  sc : env.scope = dueScope
  gl : env.globals = mainGlobals
  bu : env.builtins = builtinsNs
  ce : env.cells = [(Str.ofString "part", env.locals + 4), (Str.ofString "size", env.locals + 3), (Str.ofString "firsts", env.locals + 2), (Str.ofString "way", env.locals + 1)]
theorem DueEnv.kd {env : Env} (D : DueEnv env) {y : Str} {k : NameKind} (e : dueScope.names.lookup y = some k) : env.kindOf y = some k := by unfold Env.kindOf; rw [D.sc]; exact e
theorem DueEnv.way {env : Env} (D : DueEnv env) : env.cells.lookup (Str.ofString "way") = some (env.locals + 1) := by rw [D.ce]; rfl
theorem DueEnv.firsts {env : Env} (D : DueEnv env) : env.cells.lookup (Str.ofString "firsts") = some (env.locals + 2) := by rw [D.ce]; rfl
theorem DueEnv.size {env : Env} (D : DueEnv env) : env.cells.lookup (Str.ofString "size") = some (env.locals + 3) := by rw [D.ce]; rfl
theorem DueEnv.part {env : Env} (D : DueEnv env) : env.cells.lookup (Str.ofString "part") = some (env.locals + 4) := by rw [D.ce]; rfl

theorem clos_eq {scope : Scope} {env : Env} {ce : List (Str × Addr)} (h : env.cells = ce) : closureFor scope env = closureFor scope { env with cells := ce } := by subst h; rfl

section
variable {prog : Program} {w : World} {A : Around} {E : Value → Shared → Prop} {s : Shared} {env : Env} {m cm mg mb : Str → Option Value}

theorem frC_of {h h' : Heap} {m' : Str → Option Value} (N : EnvC env) (F : FrC env h m cm) (hn : h'.Ns env.locals m') (k : KO (· = env.locals) h h') : FrC env h' m' cm :=
  ⟨hn, fun n c hc => let ⟨o, ho, hd⟩ := F.cell n c hc; ⟨o, k _ o (N.off n c hc) ho, hd⟩⟩

/-- the words that go down -/
theorem due_downs {R : Addr} {ws : List (Bool × List Nat)} {Q : Flow → Shared → Prop} (hh : A.handled = none) (D : DueEnv env) (F : FrC env s.heap m cm) (hR : m "ways" = some (.ref R)) (hw : WaysAt s.heap R ws) (hlen : ws.length ≤ 100)
    (nx : ∀ h' tk dA, s.heap.get? dA = none → RowL h' dA (dns ws) → FrC env h' (up m "downs" (.ref dA)) cm → KO (Own env) s.heap h' → Q .next (Sh s h' tk)) :
    wpAny (model prog w) A (exec (nthS dueBody 0) env) Q E s := by
  refine comp_strs_assign (cl := []) (·.1) (fun x => S x.2) ws hh ?_ (closureFor_none (by decide)) (by decide) rfl (by decide) (D.kd rfl) (by rw [D.N.kind]; rfl) (nmL D.N F (D.kd rfl) hR ?_)
  · have hsc := D.sc
    obtain ⟨sc, lo, gl, ce, qu, fu, co, fr, bu⟩ := env
    dsimp only at hsc
    subst hsc
    rfl
  obtain ⟨vs, hl, hvl, hT⟩ := hw
  refine ⟨R, vs, m, rfl, hl, hvl, by omega, F.ns, ?_, ?_⟩
  · intro i x v h tk m' C I l j E' hx hv ka hC hns hit
    have ht : TupOf h v x := (hT i v x hv hx).ka ka
    refine go_tup (s := Sh s h tk) hit ht (asg_pair (s := Sh s h tk) hh ht fun h₁ tk₁ t k₁ => ?_)
    refine wpAny_assign_Name (st (s := Sh s h₁ tk₁) rfl (lookup_relabel_local rfl) (hns.keeps k₁) fun h₂ hn₂ k₂ => ?_)
    refine wpAny_assign_Name (st (s := Sh s h₂ _) rfl (lookup_relabel_local rfl) hn₂ fun h₃ hn₃ k₃ => ?_)
    have kk : KO (· = C) h h₃ := (k₁.ko.trans k₂).trans k₃
    refine wpAny_tests_one (wpAny_isTrue_value (nm (s := Sh s h₃ _) rfl (lookup_relabel_local rfl) hn₃ (v := .bool x.1) (by rw [up, if_neg (by decide), up, if_pos rfl]) (wpAny_truthy_bool ⟨rfl, h₃, _, _, rfl, hn₃, kk, fun _ => ?_⟩)) rfl)
    exact nm (s := Sh s h₃ _) rfl (lookup_relabel_local rfl) hn₃ (v := .str (S x.2) t) (by rw [up, if_pos rfl]) ⟨t, h₃, _, _, rfl, rfl, hn₃, kk⟩
  · intro h' tk dA hd hrow hn k
    refine nx h' tk dA hd ?_ (frC_of D.N F hn k) (k.mono fun _ => .inl)
    unfold RowL dns
    rw [List.map_map]; exact hrow

/-- their first signs -/
theorem due_firsts {dA : Addr} {ds : List (List Nat)} {Q : Flow → Shared → Prop} (hh : A.handled = none) (D : DueEnv env) (F : FrC env s.heap m cm) (hR : m "downs" = some (.ref dA)) (hw : RowL s.heap dA ds) (hlen : ds.length ≤ 100) (hsz : ∀ d ∈ ds, d.length ≤ 100)
    (nx : ∀ h' tk fA, s.heap.get? fA = none → RowL h' fA (firstsL ds) → FrC env h' m (up cm "firsts" (.ref fA)) → KO (Own env) s.heap h' → Q .next (Sh s h' tk)) :
    wpAny (model prog w) A (exec (nthS dueBody 1) env) Q E s := by
  refine wpAny_Assign_Name (comp_strs_eval (cl := []) (fun l => l != []) (fun l => S (l.take 1)) ds hh (closureFor_none (by decide)) (by decide) rfl (by decide) (nmL D.N F (D.kd rfl) hR ?_)) ?_
  · obtain ⟨vs, hp, hs⟩ := hw
    have hvl : vs.length = ds.length := by rw [hs.length, List.length_map]
    refine ⟨dA, vs, rfl, hp.isList, hvl, by omega, ?_, ?_⟩
    · intro i x v h tk m' C I l j E' hx hv ka hC hns hit
      obtain ⟨t, hvt⟩ := hs.get (i := i) (x := S x) (by rw [List.getElem?_map, hx]; rfl)
      rw [hv] at hvt; cases hvt
      refine go_name (wpAny_assign_Name (st (s := Sh s h tk) rfl (lookup_relabel_local rfl) hns fun h₁ hn₁ k₁ => ?_))
      refine wpAny_tests_one (wpAny_isTrue_Compare1 (nm (s := Sh s h₁ _) rfl (lookup_relabel_local rfl) hn₁ (v := .str (S x) t) (by rw [up, if_pos rfl]) (wpAny_Constant_str (PyProof.Rows.ne_str (wpAny_truthy_bool ⟨?_, h₁, _, _, rfl, hn₁, k₁, fun hne => ?_⟩)))) rfl)
      · rw [S_nil, S_bne]
      · obtain ⟨c, r, rfl⟩ : ∃ c r, x = c :: r := by
          cases x with
          | nil => simp at hne
          | cons c r => exact ⟨c, r, rfl⟩
        refine Subscript_ (nm (s := Sh s h₁ _) rfl (lookup_relabel_local rfl) hn₁ (v := .str (S (c :: r)) t) (by rw [up, if_pos rfl]) (wpAny_Constant_int ?_))
        have hl100 : (c :: r).length ≤ 100 := hsz _ (List.mem_of_getElem? hx)
        refine tail_any (typeIs_str _ _ _) slot_str_getitem.lookup (PyProof.Rows.getItem_str (c := c) (by decide) ?_ ⟨_, h₁, _, _, rfl, rfl, hn₁, k₁⟩) rfl
        rw [seqIndex_of (by decide) (by rw [S_length]; simp)]
        simp [S]
    · intro h' tk D' hd hrow ka
      refine stC (s := Sh s h' tk) D.N (F.ka ka) (D.kd rfl) D.firsts fun h₂ tk₂ F₂ k₂ => ?_
      refine nx h₂ tk₂ D' hd ?_ F₂ (ka.ko.trans k₂)
      have hr : RowL h' D' (firstsL ds) := by unfold RowL firstsL; rw [List.map_map]; exact hrow
      exact RowAt.ko hr k₂ ((F.ka ka).ne_row hr)
  · have hsc := D.sc
    obtain ⟨sc, lo, gl, ce, qu, fu, co, fr, bu⟩ := env
    dsimp only at hsc
    subst hsc
    rfl

/-- the refusal -/
theorem due_clash {R fA : Addr} {ws : List (Bool × List Nat)} {Q : Flow → Shared → Prop} (hh : A.handled = none) (hu : A.units < cLine) (D : DueEnv env) (F : FrC env s.heap m cm) (hR : m "ways" = some (.ref R)) (hw : WaysAt s.heap R ws) (hlen : ws.length ≤ 100)
    (hsz : ∀ x ∈ ws, x.2.length ≤ 100) (hf : cm "firsts" = some (.ref fA)) (hfr : RowL s.heap fA (firstsL (dns ws)))
    (yes : clashL ws ≠ [] → ∀ h' tk, KA s.heap h' → Q (.ret .none) (Sh s h' tk))
    (no : clashL ws = [] → ∀ h' tk, KA s.heap h' → Q .next (Sh s h' tk)) :
    wpAny (model prog w) A (exec (nthS dueBody 2) env) Q E s := by
  refine wpAny_If (wpAny_isTrue_Compare1 (comp_strs_eval (cl := [(Str.ofString "firsts", env.locals + 2)]) (fun x => !x.1 && decide (x.2.take 1 ∈ firstsL (dns ws))) (fun x => S x.2) ws hh ?_ (by decide) rfl (by decide) (nmL D.N F (D.kd rfl) hR ?_)) rfl)
  · rw [clos_eq D.ce]; rfl
  obtain ⟨vs, hl, hvl, hT⟩ := hw
  refine ⟨R, vs, rfl, hl, hvl, by omega, ?_, ?_⟩
  · intro i x v h tk m' C I l j E' hx hv ka hC hns hit
    have ht : TupOf h v x := (hT i v x hv hx).ka ka
    have hfc : h.IsCell (env.locals + 2) (some (.ref fA)) := (hf ▸ F.cell _ _ D.firsts).keeps ka
    have hCne : env.locals + 2 ≠ C := by
      obtain ⟨o, ho, _⟩ := F.cell _ _ D.firsts
      exact Ne.symm (ne_of_none_some hC ho)
    refine go_tup (s := Sh s h tk) hit ht (asg_pair (s := Sh s h tk) hh ht fun h₁ tk₁ t k₁ => ?_)
    refine wpAny_assign_Name (st (s := Sh s h₁ tk₁) rfl (lookup_relabel_local rfl) (hns.keeps k₁) fun h₂ hn₂ k₂ => ?_)
    refine wpAny_assign_Name (st (s := Sh s h₂ _) rfl (lookup_relabel_local rfl) hn₂ fun h₃ hn₃ k₃ => ?_)
    have kk : KO (· = C) h h₃ := (k₁.ko.trans k₂).trans k₃
    refine wpAny_tests_one (wpAny_isTrue_BoolOp (wpAny_allTrue_And_cons (wpAny_isTrue_Not (wpAny_isTrue_value (nm (s := Sh s h₃ _) rfl (lookup_relabel_local rfl) hn₃ (v := .bool x.1) (by rw [up, if_neg (by decide), up, if_pos rfl]) (wpAny_truthy_bool ?_)) rfl))))
    have hmw : up (up m' "down" (.bool x.1)) "way" (.str (S x.2) t) "way" = some (.str (S x.2) t) := by rw [up, if_pos rfl]
    by_cases hx1 : x.1 = true
    · rw [hx1, if_neg (by decide)]
      exact ⟨by simp [hx1], h₃, _, _, rfl, hn₃, kk, fun hc => by simp [hx1] at hc⟩
    · have hx1' : x.1 = false := by simpa using hx1
      rw [hx1', if_pos (by rfl)]
      refine wpAny_allTrue_And_cons (wpAny_isTrue_Compare1 (slice_to (nm (s := Sh s h₃ _) rfl (lookup_relabel_local rfl) hn₃ hmw (wpAny_Constant_int ⟨x.2, t, 1, _, rfl, rfl, ?_, fun h₄ tk₄ t₄ k₄ => ?_⟩))) rfl)
      · have := hsz x (List.mem_of_getElem? hx); omega
      refine nm_cell (s := Sh s h₄ tk₄) (c := env.locals + 2) rfl (kind_comp D.sc rfl) rfl (v := .ref fA) ?_ ?_
      · obtain ⟨o, ho, hd⟩ := hfc
        exact ⟨o, k₄ _ _ (kk _ _ hCne ho), hd⟩
      have hfr₄ : RowL h₄ fA (firstsL (dns ws)) := RowAt.at (RowAt.ko (RowAt.at hfr fun o e => ka _ o e) kk (by
        obtain ⟨vs', ⟨n', p'⟩, _⟩ := hfr
        exact Ne.symm (ne_of_none_some hC p'))) fun o e => k₄ _ o e
      obtain ⟨us, hpu, hsu⟩ := hfr₄
      refine in_strs (s := Sh s h₄ tk₄) hpu.isList hsu (wpAny_truthy_bool ?_)
      have hdec : decide (S (x.2.take 1) ∈ (firstsL (dns ws)).map S) = decide (x.2.take 1 ∈ firstsL (dns ws)) := by
        rw [Bool.eq_iff_iff]; simp only [decide_eq_true_eq]; exact mem_S
      rw [hdec]
      have kk₄ : KO (· = C) h h₄ := kk.trans k₄.ko
      by_cases hin : x.2.take 1 ∈ firstsL (dns ws)
      · rw [if_pos (by simpa using hin)]
        exact wpAny_allTrue_And_nil ⟨by simp [hx1', hin], h₄, _, _, rfl, hn₃.keeps k₄, kk₄, fun _ => nm (s := Sh s h₄ _) rfl (lookup_relabel_local rfl) (hn₃.keeps k₄) hmw ⟨t, h₄, _, _, rfl, rfl, hn₃.keeps k₄, kk₄⟩⟩
      · rw [if_neg (by simpa using hin)]
        exact ⟨by simp [hin], h₄, _, _, rfl, hn₃.keeps k₄, kk₄, fun hc => by simp [hin] at hc⟩
  · intro h' tk cA hd hrow ka
    refine nil_list (s := Sh s h' tk) fun h₂ tk₂ nA hn hnrow k₂ => ?_
    have hrow₂ : RowAt h₂ cA ((clashL ws).map S) := by
      have : RowAt h' cA ((clashL ws).map S) := by unfold clashL; rw [List.map_map]; exact hrow
      exact this.at fun o e => k₂ _ o e
    refine ne_rows (s := Sh s h₂ tk₂) hrow₂ hnrow hu (wpAny_truthy_bool ?_)
    have ka₂ : KA s.heap h₂ := ka.trans k₂
    by_cases hc : clashL ws = []
    · rw [if_neg (by rw [hc]; simp)]
      exact wpAny_execs_nil (no hc h₂ _ ka₂)
    · rw [if_pos (by simpa using hc)]
      exact wpAny_execs_cons (wpAny_Return_some (wpAny_Constant_none (yes hc h₂ _ ka₂)))
end
end Mine

namespace Mine
theorem interactive_false {env : Env} (hk : env.scope.kind = .function) : interactive env = false := by unfold interactive; rw [hk]; rfl
theorem ka_base {h₀ h h' : Heap} {W : Addr → Prop} (k : KA h₀ h) (x : KO W h h') (n : ∀ b, W b → h₀.get? b = none) : KA h₀ h' := fun b o e => x b o (fun q => by rw [n b q] at e; cases e) (k b o e)

section
variable {prog : Program} {w : World} {A : Around} {E : Value → Shared → Prop} {s : Shared} {env : Env} {m cm mg mb : Str → Option Value}

/-- the words that go on beyond one word -/
theorem due_longer {h₀ : Heap} {dA : Addr} {ds : List (List Nat)} {d : List Nat} {t : Tok} {Q : Flow → Shared → Prop} (hh : A.handled = none) (D : DueEnv env) (F : FrC env s.heap m cm) (G : Gd h₀ mg mb) (hB : KA h₀ s.heap)
    (hR : m "downs" = some (.ref dA)) (hw : RowL s.heap dA ds) (hlen : ds.length ≤ 100) (hsz : ∀ d ∈ ds, d.length ≤ 100) (hd : d.length ≤ 100) (hway : cm "way" = some (.str (S d) t))
    (nx : ∀ h' tk lA, s.heap.get? lA = none → RowL h' lA (longerL ds d) → FrC env h' (up m "longer" (.ref lA)) cm → KO (Own env) s.heap h' → Q .next (Sh s h' tk)) :
    wpAny (model prog w) A (exec (nthS (loopBody (nthS dueBody 4)) 0) env) Q E s := by
  refine comp_strs_assign (cl := [(Str.ofString "way", env.locals + 1)]) (fun o => o != d && o.take d.length == d) S ds hh ?_ (by rw [clos_eq D.ce]; rfl) (by decide) rfl (by decide) (D.kd rfl) (by rw [D.N.kind]; rfl) (nmL D.N F (D.kd rfl) hR ?_)
  · have hsc := D.sc
    obtain ⟨sc, lo, gl, ce, qu, fu, co, fr, bu⟩ := env
    dsimp only at hsc
    subst hsc
    rfl
  obtain ⟨vs, hp, hs⟩ := hw
  have hvl : vs.length = ds.length := by rw [hs.length, List.length_map]
  refine ⟨dA, vs, m, rfl, hp.isList, hvl, by omega, F.ns, ?_, ?_⟩
  · intro i x v h tk m' C I l j E' hx hv ka hC hns hit
    obtain ⟨tx, hvt⟩ := hs.get (i := i) (x := S x) (by rw [List.getElem?_map, hx]; rfl)
    rw [hv] at hvt; cases hvt
    have hCne : env.locals + 1 ≠ C := by
      obtain ⟨o, ho, _⟩ := F.cell _ _ D.way
      exact Ne.symm (ne_of_none_some hC ho)
    have hwc : h.IsCell (env.locals + 1) (some (.str (S d) t)) := (hway ▸ F.cell _ _ D.way).keeps ka
    have hxl : x.length ≤ 100 := hsz x (List.mem_of_getElem? hx)
    have hC0 : h₀.get? C = none := by
      cases e : h₀.get? C with
      | none => rfl
      | some o => have := hB _ _ e; rw [hC] at this; cases this
    refine go_name (wpAny_assign_Name (st (s := Sh s h tk) rfl (lookup_relabel_local rfl) hns fun h₁ hn₁ k₁ => ?_))
    have hwc₁ : h₁.IsCell (env.locals + 1) (some (.str (S d) t)) := let ⟨o, ho, hd⟩ := hwc; ⟨o, k₁ _ _ hCne ho, hd⟩
    have G₁ : Gd h₁ mg mb := G.keeps (ka_base (hB.trans ka) k₁ fun b hb => by rw [hb]; exact hC0)
    refine wpAny_tests_one (wpAny_isTrue_BoolOp (wpAny_allTrue_And_cons (wpAny_isTrue_Compare1 (nm (s := Sh s h₁ _) rfl (lookup_relabel_local rfl) hn₁ (v := .str (S x) tx) (by rw [up, if_pos rfl]) (nm_cell (s := Sh s h₁ _) (c := env.locals + 1) rfl (kind_comp D.sc rfl) rfl hwc₁ (PyProof.Rows.ne_str (wpAny_truthy_bool ?_)))) rfl)))
    rw [S_bne]
    by_cases hne : (x != d) = true
    · rw [if_pos hne]
      refine wpAny_allTrue_And_cons (wpAny_isTrue_Compare1 (slice_to (nm (s := Sh s h₁ _) rfl (lookup_relabel_local rfl) hn₁ (v := .str (S x) tx) (by rw [up, if_pos rfl]) (call_b1 (nm_builtin (s := Sh s h₁ _) rfl (kind_comp D.sc rfl) ((D.gl ▸ G₁.g : h₁.Ns env.globals mg)) G₁.len0 ((D.bu ▸ G₁.b : h₁.Ns env.builtins mb)) G₁.len ⟨rfl, ?_⟩)))) rfl)
      refine nm_cell (s := Sh s h₁ _) (c := env.locals + 1) rfl (kind_comp D.sc rfl) rfl hwc₁ (PyProof.Rows.len_str (by rw [S_length]; omega) ⟨x, tx, d.length, _, rfl, by rw [S_length], by omega, fun h₂ tk₂ t₂ k₂ => ?_⟩)
      have hwc₂ := hwc₁.keeps k₂
      refine nm_cell (s := Sh s h₂ _) (c := env.locals + 1) rfl (kind_comp D.sc rfl) rfl hwc₂ (PyProof.Rows.eq_str (wpAny_truthy_bool ?_))
      rw [S_beq]
      have kk : KO (· = C) h h₂ := k₁.trans k₂.ko
      by_cases heq : (x.take d.length == d) = true
      · rw [if_pos heq]
        exact wpAny_allTrue_And_nil ⟨by simp only [hne, heq, Bool.and_self], h₂, _, _, rfl, hn₁.keeps k₂, kk, fun _ => nm (s := Sh s h₂ _) rfl (lookup_relabel_local rfl) (hn₁.keeps k₂) (v := .str (S x) tx) (by rw [up, if_pos rfl]) ⟨tx, h₂, _, _, rfl, rfl, hn₁.keeps k₂, kk⟩⟩
      · rw [if_neg heq]
        have heq' : (x.take d.length == d) = false := by simpa using heq
        exact ⟨by simp only [heq', Bool.and_false], h₂, _, _, rfl, hn₁.keeps k₂, kk, fun hc => by simp only [heq', Bool.and_false] at hc; cases hc⟩
    · rw [if_neg hne]
      have hne' : (x != d) = false := by simpa using hne
      exact ⟨by simp only [hne', Bool.false_and], h₁, _, _, rfl, hn₁, k₁, fun hc => by simp only [hne', Bool.false_and] at hc; cases hc⟩
  · intro h' tk lA hd hrow hn k
    exact nx h' tk lA hd hrow (frC_of D.N F hn k) (k.mono fun _ => .inl)

theorem foldl_take_succ {α β : Type} (f : β → α → β) (b : β) (xs : List α) (i : Nat) (x : α) (h : xs[i]? = some x) : (xs.take (i + 1)).foldl f b = f ((xs.take i).foldl f b) x := by
  rw [List.take_add_one, h]; simp

theorem keptStep_len (ds kept : List (List Nat)) (d : List Nat) : (keptStep ds kept d).length ≤ kept.length + 1 := by
  unfold keptStep; split <;> simp
theorem foldl_len {α : Type} (f : List (List Nat) → α → List (List Nat)) (hf : ∀ b a, (f b a).length ≤ b.length + 1) : ∀ (xs : List α) (b : List (List Nat)), (xs.foldl f b).length ≤ b.length + xs.length
  | [], b => by simp
  | x :: r, b => by
    have h1 := foldl_len f hf r (f b x)
    have h2 := hf b x
    simp only [List.foldl_cons, List.length_cons]; omega

/-- the kept words -/
theorem due_kept {h₀ : Heap} {dA kA : Addr} {ds : List (List Nat)} {Q : Flow → Shared → Prop} (hh : A.handled = none) (hu : A.units < cLine) (D : DueEnv env) (F : FrC env s.heap m cm) (G : Gd h₀ mg mb) (hB : KA h₀ s.heap)
    (hO : ∀ b, Own env b → h₀.get? b = none) (hk0 : h₀.get? kA = none)
    (hR : m "downs" = some (.ref dA)) (hK : m "kept" = some (.ref kA)) (hw : RowL s.heap dA ds) (hkr : RowL s.heap kA []) (hne : dA ≠ kA) (hlen : ds.length ≤ 100) (hsz : ∀ d ∈ ds, d.length ≤ 100)
    (nx : ∀ h' tk m' cm', FrC env h' m' cm' → (∀ y : Str, y ≠ "longer" → m' y = m y) → (∀ y : Str, y ≠ "way" → cm' y = cm y) → RowL h' kA (keptL ds) → KO (fun b => Own env b ∨ b = kA) s.heap h' → Q .next (Sh s h' tk)) :
    wpAny (model prog w) A (exec (nthS dueBody 4) env) Q E s := by
  obtain ⟨vs, hp, hs⟩ := id hw
  have hvl : vs.length = ds.length := by rw [hs.length, List.length_map]
  have hdO : ¬ Own env dA := F.ne_list hp.isList
  have hkO : ¬ Own env kA := F.ne_row hkr
  refine for_list hh (nmL D.N F (D.kd rfl) hR ?_)
  refine ⟨dA, vs, fun i h => KO (fun b => Own env b ∨ b = kA) s.heap h ∧ RowL h kA ((ds.take i).foldl (keptStep ds) []) ∧ ∃ m' cm', FrC env h m' cm' ∧ (∀ y : Str, y ≠ "longer" → m' y = m y) ∧ (∀ y : Str, y ≠ "way" → cm' y = cm y), rfl, hp.isList, ?_, ?_, ?_, ?_⟩
  · intro h' k
    exact ⟨k.ko, RowAt.at hkr fun o e => k _ o e, m, cm, F.ka k, fun _ _ => rfl, fun _ _ => rfl⟩
  · rintro i h h' ⟨a, b, m', cm', F', r⟩ k
    refine ⟨fun p o np e' => k p o (Nat.ne_of_lt (Heap.lt_size e')) (a p o np e'), RowAt.ko b k (Nat.ne_of_lt (RowAt.lt hkr)), m', cm', F'.ko k fun b hb => Nat.ne_of_lt (F.lt b hb), r⟩
  · rintro i v h tk hv ⟨k, hrow, m', cm', F', hm', hcm'⟩ hit hl'
    have hi : i < ds.length := by rw [← hvl]; exact (List.getElem?_eq_some_iff.mp hv).1
    have hx : ds[i]? = some ds[i] := List.getElem?_eq_getElem hi
    generalize ds[i] = d at hx
    obtain ⟨tx, hvt⟩ := hs.get (i := i) (x := S d) (by rw [List.getElem?_map, hx]; rfl)
    rw [hv] at hvt; cases hvt
    have hdl : d.length ≤ 100 := hsz d (List.mem_of_getElem? hx)
    refine go_name (wpAny_assign_Name (stC (s := Sh s h tk) D.N F' (D.kd rfl) D.way fun h₁ tk₁ F₁ k₁ => ?_))
    have k01 : KO (fun b => Own env b ∨ b = kA) s.heap h₁ := k.trans (k₁.mono fun _ => .inl)
    have nW : ∀ b, (Own env b ∨ b = kA) → h₀.get? b = none := fun b q => q.elim (hO b) fun q => q ▸ hk0
    have hw₁ : RowL h₁ dA ds := RowAt.ko hw k01 fun q => q.elim hdO hne
    refine wpAny_execs_cons (due_longer (s := Sh s h₁ tk₁) (t := tx) hh D F₁ G (ka_base hB k01 nW) (by rw [hm' _ (by decide)]; exact hR) hw₁ hlen hsz hdl (by rw [up, if_pos rfl]) fun h₂ tk₂ lA hlA hlr F₂ k₂ => ?_)
    have k02 : KO (fun b => Own env b ∨ b = kA) s.heap h₂ := k01.trans (k₂.mono fun _ => .inl)
    have hrow₂ : RowL h₂ kA ((ds.take i).foldl (keptStep ds) []) := RowAt.ko (RowAt.ko hrow k₁ hkO) k₂ hkO
    have hm₂ : ∀ y : Str, y ≠ "longer" → up m' "longer" (.ref lA) y = m y := fun y hy => by rw [up, if_neg hy, hm' y hy]
    have hcm₂ : ∀ y : Str, y ≠ "way" → up cm' "way" (.str (S d) tx) y = cm y := fun y hy => by rw [up, if_neg hy, hcm' y hy]
    have klen : ((ds.take i).foldl (keptStep ds) []).length ≤ 100 := by
      have := foldl_len (keptStep ds) (keptStep_len ds) (ds.take i) []
      rw [List.length_take, List.length_nil] at this; omega
    have hend : ∀ h₃ tk₃, KA h₂ h₃ → (longerL ds d = [] ∧ d ∉ (ds.take i).foldl (keptStep ds) [] → False) → TurnEnd Q (fun s₄ => ∃ h' tk', s₄ = Sh s h' tk' ∧ (KO (fun b => Own env b ∨ b = kA) s.heap h' ∧ RowL h' kA ((ds.take (i + 1)).foldl (keptStep ds) []) ∧ ∃ m' cm', FrC env h' m' cm' ∧ (∀ y : Str, y ≠ "longer" → m' y = m y) ∧ (∀ y : Str, y ≠ "way" → cm' y = cm y)) ∧
        (∀ o, h.get? s.heap.objs.size = some o → h'.get? s.heap.objs.size = some o) ∧ (∀ o, h.get? dA = some o → h'.get? dA = some o)) .next (Sh s h₃ tk₃) := by
      intro h₃ tk₃ k₃ hno
      refine ⟨h₃, tk₃, rfl, ⟨k02.trans k₃.ko, ?_, _, _, F₂.ka k₃, hm₂, hcm₂⟩, ?_, ?_⟩
      · rw [foldl_take_succ _ _ _ _ _ hx, keptStep, if_neg hno]
        exact RowAt.at hrow₂ fun o e => k₃ _ o e
      · exact fun o e => k₃ _ o (k₂ _ o (fun q => Nat.lt_irrefl _ (F.lt _ q)) (k₁ _ o (fun q => Nat.lt_irrefl _ (F.lt _ q)) e))
      · exact fun o e => k₃ _ o (k₂ _ o hdO (k₁ _ o hdO e))
    refine wpAny_execs_cons (wpAny_If (wpAny_isTrue_BoolOp (wpAny_allTrue_And_cons (wpAny_isTrue_Compare1 (nmL (s := Sh s h₂ tk₂) D.N F₂ (D.kd rfl) (v := .ref lA) (by rw [up, if_pos rfl]) (nil_list (s := Sh s h₂ tk₂) fun h₃ tk₃ nA hnA hnr k₃ => ?_)) rfl))))
    have hlr₃ : RowAt h₃ lA ((longerL ds d).map S) := RowAt.at hlr fun o e => k₃ _ o e
    refine eq_rows (s := Sh s h₃ tk₃) hlr₃ hnr hu (wpAny_truthy_bool ?_)
    by_cases hlong : longerL ds d = []
    · rw [if_pos (by simp [hlong])]
      refine wpAny_allTrue_And_cons (wpAny_isTrue_Compare1 (nmC (s := Sh s h₃ tk₃) D.N (F₂.ka k₃) (D.kd rfl) D.way (v := .str (S d) tx) (by rw [up, if_pos rfl]) (nmL (s := Sh s h₃ tk₃) D.N (F₂.ka k₃) (D.kd rfl) (v := .ref kA) (by rw [hm₂ _ (by decide)]; exact hK) ?_)) rfl)
      obtain ⟨us, hpu, hsu⟩ := RowAt.at (h' := h₃) hrow₂ fun o e => k₃ _ o e
      refine notin_strs (s := Sh s h₃ tk₃) hpu.isList hsu (wpAny_truthy_bool ?_)
      by_cases hin : d ∈ (ds.take i).foldl (keptStep ds) []
      · rw [if_neg (by simpa using mem_S.mpr hin), if_neg Bool.false_ne_true]
        exact wpAny_execs_nil (wpAny_execs_nil (hend h₃ _ k₃ fun q => q.2 hin))
      · rw [if_pos (by simpa using fun q => hin (mem_S.mp q))]
        refine wpAny_allTrue_And_nil ?_
        rw [if_pos rfl]
        refine wpAny_execs_cons (wpAny_Expr (wpAny_Call_append rfl rfl rfl rfl (nmL (s := Sh s h₃ tk₃) D.N (F₂.ka k₃) (D.kd rfl) (v := .ref kA) (by rw [hm₂ _ (by decide)]; exact hK) ⟨kA, us.toArray, rfl, ?_, nmC (s := Sh s h₃ tk₃) D.N (F₂.ka k₃) (D.kd rfl) D.way (v := .str (S d) tx) (by rw [up, if_pos rfl]) ?_⟩)) ?_ rfl)
        · obtain ⟨n, e⟩ := hpu
          exact ⟨_, n, e, rfl, rfl, rfl⟩
        · refine wpAny_list_append_plain (s := Sh s h₃ tk₃) hpu (fun h₄ hp₄ hs₄ => ?_) ?_
          · refine wpAny_execs_nil (wpAny_execs_nil ⟨h₄, _, rfl, ⟨(k02.trans k₃.ko).trans ((ko_same hs₄).mono fun _ => .inr), ?_, _, _, (F₂.ka k₃).ko (ko_same hs₄) (fun b hb q => hkO (q ▸ hb)), hm₂, hcm₂⟩, ?_, ?_⟩)
            · rw [foldl_take_succ _ _ _ _ _ hx, keptStep, if_pos ⟨hlong, hin⟩]
              refine ⟨us ++ [.str (S d) tx], by simpa using hp₄, ?_⟩
              rw [List.map_append]
              exact hsu.snoc _ _
            · exact fun o e => hs₄.extBut _ o (Nat.ne_of_gt (RowAt.lt hkr)) (k₃ _ o (k₂ _ o (fun q => Nat.lt_irrefl _ (F.lt _ q)) (k₁ _ o (fun q => Nat.lt_irrefl _ (F.lt _ q)) e)))
            · exact fun o e => hs₄.extBut _ o hne (k₃ _ o (k₂ _ o hdO (k₁ _ o hdO e)))
          · rw [List.size_toArray, hsu.length, List.length_map, show sizeLine = 2 ^ 24 from rfl]; omega
        · exact interactive_false D.N.kind
    · rw [if_neg (by simpa using hlong), if_neg Bool.false_ne_true]
      exact wpAny_execs_nil (wpAny_execs_nil (hend h₃ _ k₃ fun q => hlong q.1))
  · rintro h tk ⟨k, hrow, m', cm', F', hm', hcm'⟩
    rw [hvl, List.take_length] at hrow
    exact wpAny_execs_nil (nx h tk m' cm' F' hm' hcm' hrow k)
end
end Mine

namespace Mine
section
variable {prog : Program} {w : World} {A : Around} {E : Value → Shared → Prop} {s : Shared} {env : Env} {m cm mg mb : Str → Option Value}

theorem slice_to' {value upper : Expr} {p pos : Pos} {Q : Value → Shared → Prop}
    (h : wpAny (model prog w) A (eval value env) (fun o s₁ => wpAny (model prog w) A (eval upper env) (fun vu s₂ => ∃ l t, ∃ n : Nat, ∃ u, o = .str (S l) t ∧ vu = .int n u ∧ l.length ≤ 1000 ∧
      ∀ h' tk t', KA s₂.heap h' → Q (.str (S (l.take n)) t') (Sh s₂ h' tk)) E s₁) E s) :
    wpAny (model prog w) A (eval (.Subscript value (.Slice none (some upper) none p) pos) env) Q E s := by
  refine Subscript_ (wpAny_mono h (fun o s₁ h₁ => wpAny_Slice ?_) fun _ _ e => e)
  rw [evalPart_none, evalPart_some]
  refine wpAny_pure (wpAny_mono h₁ (fun vu s₂ h₂ => wpAny_pure ?_) fun _ _ e => e)
  obtain ⟨l, t, n, u, rfl, rfl, hl, hq⟩ := h₂
  exact tail_any (typeIs_str _ _ _) slot_str_getitem.lookup (wpAny_getItem_str_slice (l := none) (u := some (n, u)) (st := none) ⟨_, Heap.get?_push_size _ rfl, rfl, rfl⟩ rfl (made_to hl fun tk t' => hq _ tk t' (KA.push _ _))) rfl

/-- xs[i], i an int: an item of a list -/
theorem item_at {value slice : Expr} {pos : Pos} {Q : Value → Shared → Prop}
    (h : wpAny (model prog w) A (eval value env) (fun o s₁ => wpAny (model prog w) A (eval slice env) (fun iv s₂ => ∃ l items, ∃ n : Nat, ∃ t x, o = .ref l ∧ iv = .int n t ∧ s₂.heap.IsList l items ∧ n < 1000 ∧ items[n]? = some x ∧ Q x s₂) E s₁) E s)
    (hs : ∀ o i, subscripted slice false o i = operate [o, i] (getItem o i) := by intro _ _; rfl) :
    wpAny (model prog w) A (eval (.Subscript value slice pos) env) Q E s := by
  refine Subscript_ (wpAny_mono h (fun o s₁ h₁ => wpAny_mono h₁ (fun iv s₂ h₂ => ?_) fun _ _ e => e) fun _ _ e => e)
  obtain ⟨l, items, n, t, x, rfl, rfl, hl, hn, hx, hq⟩ := h₂
  exact tail_any hl.typeIs slot_list_getitem.lookup (wpAny_getItem_list hl (by omega) (by omega) (by simpa using hx) hq) (hs _ _)

/-- xs[n:] -/
theorem slice_from {value lower : Expr} {p pos : Pos} {Q : Value → Shared → Prop}
    (h : wpAny (model prog w) A (eval value env) (fun o s₁ => wpAny (model prog w) A (eval lower env) (fun vl s₂ => ∃ l, ∃ vs : List Value, ∃ n : Nat, ∃ t, o = .ref l ∧ vl = .int n t ∧ s₂.heap.IsList l vs.toArray ∧ vs.length ≤ sizeLine ∧
      ∀ h' D, s₂.heap.get? D = none → h'.PlainList D (vs.drop n).toArray → KA s₂.heap h' → Q (.ref D) (Sh s₂ h' s₂.toks)) E s₁) E s)
    (hv : ∀ (o r : Value), letTemporaryGo value o r = pure () := by intro _ _; rfl) :
    wpAny (model prog w) A (eval (.Subscript value (.Slice (some lower) none none p) pos) env) Q E s := by
  refine wpAny_Subscript_list_slice (wpAny_mono h (fun o s₁ h₁ => ?_) fun _ _ e => e) hv
  rw [evalPart_some, evalPart_none]
  refine wpAny_mono h₁ (fun vl s₂ h₂ => wpAny_pure ?_) fun _ _ e => e
  obtain ⟨l, vs, n, t, rfl, rfl, hl, hsz, hq⟩ := h₂
  refine ⟨l, vs.toArray, some n, none, rfl, hl, by simpa using hsz, .int _ _, .none, ?_⟩
  have e : slicePick vs.toArray (some (n : Int)) none none = (vs.drop n).toArray := slicePick_from' vs.toArray n
  rw [e]
  refine hq _ _ (Heap.get?_none_of_le (Nat.le_succ _)) ⟨0, ?_⟩ ((KA.push _ _).trans (KA.push _ _))
  have := Heap.get?_push_size (s₂.heap.push { cls := .type "slice", data := .fields #[.int n t, .none, .none] }) (o := { cls := .type "list", data := .seq (vs.drop n).toArray }) rfl
  rw [Heap.size_push] at this
  exact this

/-- the test that no later kept word shares a part -/
theorem due_shared {Q : Bool → Shared → Prop} {kA : Addr} {kept : List (List Nat)} {place : Nat} {k : List Nat} {size : Nat} {tp ts tt : Tok} (hh : A.handled = none) (hu : A.units < cLine) (D : DueEnv env) (F : FrC env s.heap m cm)
    (hK : m "kept" = some (.ref kA)) (hkr : RowL s.heap kA kept) (hP : m "place" = some (.int place tp)) (hS : cm "size" = some (.int size ts)) (hpt : cm "part" = some (.str (S (k.take size)) tt)) (hlen : kept.length ≤ 100) (hsz : ∀ d ∈ kept, d.length ≤ 100)
    (nx : ∀ h' tk, KA s.heap h' → Q (decide (((kept.drop (place + 1)).filter fun o => o.take size == k.take size) = [])) (Sh s h' tk)) :
    wpAny (model prog w) A (match nthS (loopBody (nthS (loopBody (nthS dueBody 6)) 0)) 1 with | .If t _ _ _ => PySem.isTrue t env (eval t env) | _ => pure true) Q E s := by
  refine wpAny_isTrue_Compare1 (comp_strs_eval (cl := [(Str.ofString "size", env.locals + 3), (Str.ofString "part", env.locals + 4)]) (fun o => o.take size == k.take size) S (kept.drop (place + 1)) hh (by rw [clos_eq D.ce]; rfl) (by decide) rfl (by decide) ?_) rfl
  obtain ⟨us, hpu, hsu⟩ := id hkr
  have hul : us.length = kept.length := by rw [hsu.length, List.length_map]
  refine slice_from (nmL D.N F (D.kd rfl) hK (bin_const (nmL (s := Sh s s.heap _) D.N F (D.kd rfl) hP (PyProof.Rows.add_int ⟨kA, us, place + 1, _, rfl, by push_cast; rfl, hpu.isList, ?_, fun h₁ D₁ hD₁ hp₁ k₁ => ?_⟩))))
  · rw [hul, show sizeLine = 2 ^ 24 from rfl]; omega
  have hs₁ : Strs (us.drop (place + 1)) ((kept.drop (place + 1)).map S) := by rw [List.map_drop]; exact hsu.drop _
  refine ⟨D₁, us.drop (place + 1), rfl, hp₁.isList, by rw [hs₁.length, List.length_map], by rw [List.length_drop]; omega, ?_, ?_⟩
  · intro i x v h tk m' C I l j E' hx hv ka hC hns hit
    obtain ⟨tx, hvt⟩ := hs₁.get (i := i) (x := S x) (by rw [List.getElem?_map, hx]; rfl)
    rw [hv] at hvt; cases hvt
    have ka' : KA s.heap h := k₁.trans ka
    have hCs : s.heap.get? C = none := by
      cases e : s.heap.get? C with
      | none => rfl
      | some o => have := k₁ _ _ e; rw [hC] at this; cases this
    have hne : ∀ n c, env.cells.lookup n = some c → c ≠ C := fun n c hc => by
      obtain ⟨o, ho, _⟩ := F.cell n c hc
      exact Ne.symm (ne_of_none_some hCs ho)
    have hxl : x.length ≤ 100 := hsz x (List.mem_of_mem_drop (List.mem_of_getElem? hx))
    refine go_name (wpAny_assign_Name (st (s := Sh _ h tk) rfl (lookup_relabel_local rfl) hns fun h₁ hn₁ k₂ => ?_))
    have cell : ∀ n c v, env.cells.lookup n = some c → cm n = some v → h₁.IsCell c (some v) := fun n c v hc hv => by
      obtain ⟨o, ho, hd⟩ := hv ▸ F.cell n c hc
      exact ⟨o, k₂ _ _ (hne n c hc) (ka' _ _ ho), hd⟩
    refine wpAny_tests_one (wpAny_isTrue_Compare1 (slice_to (nm (s := Sh _ h₁ _) rfl (lookup_relabel_local rfl) hn₁ (v := .str (S x) tx) (by rw [up, if_pos rfl]) (nm_cell (s := Sh _ h₁ _) (c := env.locals + 3) rfl (kind_comp D.sc rfl) rfl (cell _ _ _ D.size hS) ⟨x, tx, size, ts, rfl, rfl, by omega, fun h₂ tk₂ t₂ k₃ => ?_⟩))) rfl)
    refine nm_cell (s := Sh _ h₂ _) (c := env.locals + 4) rfl (kind_comp D.sc rfl) rfl ((cell _ _ _ D.part hpt).keeps k₃) (PyProof.Rows.eq_str (wpAny_truthy_bool ⟨?_, h₂, _, _, rfl, hn₁.keeps k₃, k₂.trans k₃.ko, fun _ => ?_⟩))
    · rw [S_beq]
    · exact nm (s := Sh _ h₂ _) rfl (lookup_relabel_local rfl) (hn₁.keeps k₃) (v := .str (S x) tx) (by rw [up, if_pos rfl]) ⟨tx, h₂, _, _, rfl, rfl, hn₁.keeps k₃, k₂.trans k₃.ko⟩
  · intro h' tk D₂ hD₂ hrow ka
    refine nil_list (s := Sh _ h' tk) fun h₂ tk₂ nA hnA hnr k₂ => ?_
    refine eq_rows (s := Sh _ h₂ tk₂) (hrow.at fun o e => k₂ _ o e) hnr hu (wpAny_truthy_bool ?_)
    have := nx h₂ tk₂ ((k₁.trans ka).trans k₂)
    have e : decide ((((kept.drop (place + 1)).filter fun o => o.take size == k.take size).map S) = []) = decide (((kept.drop (place + 1)).filter fun o => o.take size == k.take size) = []) := by
      rw [Bool.eq_iff_iff]; simp only [decide_eq_true_eq, List.map_eq_nil_iff]
    rw [e]
    exact this
end
end Mine

namespace Mine
section
variable {prog : Program} {w : World} {A : Around} {E : Value → Shared → Prop} {s : Shared} {env : Env} {m cm mg mb : Str → Option Value}

theorem partStep_len (later : List (List Nat)) (k : List Nat) (order : List (List Nat)) (size : Nat) : (partStep later k order size).length ≤ order.length + 1 := by
  unfold partStep; split <;> simp
theorem downsizes_get {n i : Nat} (h : i < n) : (downsizes n)[i]? = some (n - i) := by simp [downsizes, h]
theorem downsizes_length (n : Nat) : (downsizes n).length = n := by simp [downsizes]

/-- out.append(x), out a local that holds a list of texts -/
theorem append_text {oA : Addr} {order : List (List Nat)} {oe elt : Expr} {apos pos spos : Pos} {x : List Nat} {Q : Flow → Shared → Prop} (hk : env.scope.kind = .function) (hrow : RowL s.heap oA order) (hlen : order.length ≤ 100000)
    (ho : wpAny (model prog w) A (eval oe env) (fun v s₁ => v = .ref oA ∧ s₁ = s) (fun _ _ => False) s)
    (hx : ∀ {Q' : Value → Shared → Prop} {E'}, (∀ h' tk t, KA s.heap h' → Q' (.str (S x) t) (Sh s h' tk)) → wpAny (model prog w) A (eval elt env) Q' E' s)
    (nx : ∀ h' tk, RowL h' oA (order ++ [x]) → KO (· = oA) s.heap h' → Q .next (Sh s h' tk))
    (hbase : attributeBase oe "append" env (eval oe env) = eval oe env := by rfl)
    (hfew : ((backTo pos (starEach [elt] env)).all (fun x => !x.1) && (backToKw pos (keywordEach [] env)).all (fun x => x.1.isSome)
      && decide (([elt] : List Expr).length + ([] : List Keyword).length + (if ([] : List Keyword).isEmpty then 0 else 1) < 30)) = true := by rfl)
    (hline : (apos.endLine == pos.line) = true := by rfl)
    (htrees : backTo pos (starEach [elt] env) = [(false, eval elt env)] := by rfl) :
    wpAny (model prog w) A (exec (.Expr (.Call (.Attribute oe "append" apos) [elt] [] pos) spos) env) Q E s := by
  obtain ⟨us, hpu, hsu⟩ := hrow
  refine wpAny_Expr (wpAny_Call_append hbase hfew hline htrees (wpAny_mono ho (fun v s₁ h₁ => ?_) fun _ _ e => e.elim)) (interactive_false hk) rfl
  obtain ⟨rfl, rfl⟩ := h₁
  refine ⟨oA, us.toArray, rfl, let ⟨n, e⟩ := hpu; ⟨_, n, e, rfl, rfl, rfl⟩, hx fun h₁ tk₁ t k₁ => ?_⟩
  refine wpAny_list_append_plain (s := Sh s₁ h₁ tk₁) (hpu.at fun o e => k₁ _ o e) (fun h₄ hp₄ hs₄ => ?_) ?_
  · refine nx h₄ _ ⟨us ++ [.str (S x) t], by simpa using hp₄, ?_⟩ (k₁.ko.trans (ko_same hs₄))
    rw [List.map_append]; exact hsu.snoc _ _
  · rw [List.size_toArray, hsu.length, List.length_map, show sizeLine = 2 ^ 24 from rfl]; omega

theorem due_parts {h₀ : Heap} {kA oA : Addr} {kept order : List (List Nat)} {place : Nat} {k : List Nat} {tp : Tok} {Q : Flow → Shared → Prop} (hh : A.handled = none) (hu : A.units < cLine) (D : DueEnv env) (F : FrC env s.heap m cm) (G : Gd h₀ mg mb) (hB : KA h₀ s.heap)
    (hO : ∀ b, Own env b → h₀.get? b = none) (ho0 : h₀.get? oA = none)
    (hK : m "kept" = some (.ref kA)) (hkr : RowL s.heap kA kept) (hOr : m "order" = some (.ref oA)) (hor : RowL s.heap oA order) (hne : kA ≠ oA) (hP : m "place" = some (.int place tp)) (hk : kept[place]? = some k)
    (hlen : kept.length ≤ 100) (hsz : ∀ d ∈ kept, d.length ≤ 100) (holen : order.length ≤ 20000)
    (nx : ∀ h' tk cm', FrC env h' m cm' → (∀ y : Str, y ≠ "size" → y ≠ "part" → cm' y = cm y) → RowL h' oA (partsOf (kept.drop (place + 1)) k order) → KO (fun b => Own env b ∨ b = oA) s.heap h' → Q .next (Sh s h' tk)) :
    wpAny (model prog w) A (exec (nthS (loopBody (nthS dueBody 6)) 0) env) Q E s := by
  obtain ⟨us, hpu, hsu⟩ := id hkr
  have hpl : place < kept.length := (List.getElem?_eq_some_iff.mp hk).1
  have hkl : k.length ≤ 100 := hsz k (List.mem_of_getElem? hk)
  obtain ⟨tk0, hku⟩ := hsu.get (i := place) (x := S k) (by rw [List.getElem?_map, hk]; rfl)
  have Gs := G.keeps hB
  have hkO : ¬ Own env kA := F.ne_row hkr
  have hoO : ¬ Own env oA := F.ne_row hor
  have item : ∀ {h' tk' cm' E'} {p1 p2 p3 : Pos} {Q' : Value → Shared → Prop}, FrC env h' m cm' → RowL h' kA kept → (∀ tx, Q' (.str (S k) tx) (Sh s h' tk')) →
      wpAny (model prog w) A (eval (.Subscript (.Name (Str.ofString "kept") p1) (.Name (Str.ofString "place") p2) p3) env) Q' E' (Sh s h' tk') := by
    intro h' tk' cm' E' p1 p2 p3 Q' F' hkr' hq
    obtain ⟨us', hpu', hsu'⟩ := hkr'
    obtain ⟨tx, hku'⟩ := hsu'.get (i := place) (x := S k) (by rw [List.getElem?_map, hk]; rfl)
    exact item_at (nmL (s := Sh s h' tk') D.N F' (D.kd rfl) hK (nmL (s := Sh s h' tk') D.N F' (D.kd rfl) hP ⟨kA, us'.toArray, place, tp, .str (S k) tx, rfl, rfl, hpu'.isList, by omega, by simpa using hku', hq tx⟩))
  refine for_range hh (call_t3 (nm_builtin D.N.kind (D.kd rfl) (D.gl ▸ Gs.g) Gs.range0 (D.bu ▸ Gs.b) Gs.range ⟨rfl, ?_⟩))
  refine call_b1 (nm_builtin D.N.kind (D.kd rfl) (D.gl ▸ Gs.g) Gs.len0 (D.bu ▸ Gs.b) Gs.len ⟨rfl, item (tk' := s.toks) F hkr fun tx => ?_⟩)
  refine PyProof.Rows.len_str (by rw [S_length]; omega) (wpAny_Constant_int (wpAny_UnaryOp (wpAny_Constant_int (P.neg_int (rng3 fun hr r tkr t₁ u₁ v₁ hrange kr => ?_)))))
  rw [S_length] at hrange
  have hsr : KA s.heap hr := kr
  refine ⟨r, k.length, 0, -1, _, _, _, k.length, fun i h => KO (fun b => Own env b ∨ b = oA) s.heap h ∧ RowL h oA (((downsizes k.length).take i).foldl (partStep (kept.drop (place + 1)) k) order) ∧ ∃ cm', FrC env h m cm' ∧ (∀ y : Str, y ≠ "size" → y ≠ "part" → cm' y = cm y),
    rfl, hrange, range_small_down (by omega), rangeSize_down (by omega), ?_, ?_, ?_, ?_⟩
  · intro h' k'
    exact ⟨(hsr.trans k').ko, RowAt.at hor fun o e => k' _ o (hsr _ o e), cm, F.ka (hsr.trans k'), fun _ _ _ => rfl⟩
  · rintro i h h' ⟨a, b, cm', F', r⟩ k'
    have hlt : ∀ b o, s.heap.get? b = some o → b ≠ hr.objs.size := fun b o e => Nat.ne_of_lt (Heap.lt_size (hsr b o e))
    refine ⟨fun p o np e' => k' p o (hlt p o e') (a p o np e'), RowAt.ko b k' ?_, cm', F'.ko k' fun b hb => ?_, r⟩
    · obtain ⟨_, ⟨_, p⟩, _⟩ := hor
      exact hlt _ _ p
    · exact Nat.ne_of_lt ((F.ka hsr).lt b hb)
  · rintro i ti h tk o hi ⟨k1, hrow, cm', F', hcm'⟩ hio
    rw [show ((k.length : Int) + (i : Nat) * -1) = ((k.length - i : Nat) : Int) by omega]
    have hst : (downsizes k.length)[i]? = some (k.length - i) := downsizes_get hi
    generalize k.length - i = size at hst
    have hIO : ¬ Own env hr.objs.size := fun q => Nat.lt_irrefl _ ((F.ka hsr).lt _ q)
    refine wpAny_assign_Name (stC (s := Sh s h tk) D.N F' (D.kd rfl) D.size fun h₁ tk₁ F₁ k₁ => ?_)
    have kk1 : KO (fun b => Own env b ∨ b = oA) s.heap h₁ := k1.trans (k₁.mono fun _ => .inl)
    have hkr₁ : RowL h₁ kA kept := RowAt.ko hkr kk1 fun q => q.elim hkO hne
    refine wpAny_execs_cons (wpAny_Assign_Name (slice_to' (item (tk' := tk₁) F₁ hkr₁ fun tx => nmC (s := Sh s h₁ tk₁) D.N F₁ (D.kd rfl) D.size (v := .int size ti) (by rw [up, if_pos rfl]) ⟨k, tx, size, ti, rfl, rfl, by omega, fun h₂ tk₂ t₂ k₂ => ?_⟩)))
    refine stC (s := Sh s h₂ tk₂) D.N (F₁.ka k₂) (D.kd rfl) D.part fun h₃ tk₃ F₃ k₃ => ?_
    have kk3 : KO (fun b => Own env b ∨ b = oA) s.heap h₃ := (kk1.trans k₂.ko).trans (k₃.mono fun _ => .inl)
    have hkr₃ : RowL h₃ kA kept := RowAt.ko hkr kk3 fun q => q.elim hkO hne
    have hrow₃ : RowL h₃ oA (((downsizes k.length).take i).foldl (partStep (kept.drop (place + 1)) k) order) := RowAt.ko (RowAt.at (RowAt.ko hrow k₁ hoO) fun o e => k₂ _ o e) k₃ hoO
    have hcm₃ : ∀ y : Str, y ≠ "size" → y ≠ "part" → up (up cm' "size" (.int size ti)) "part" (.str (S (k.take size)) t₂) y = cm y := fun y y1 y2 => by rw [up, if_neg y2, up, if_neg y1, hcm' y y1 y2]
    have hio₃ : h₃.get? hr.objs.size = some o := k₃ _ o hIO (k₂ _ o (k₁ _ o hIO hio))
    have hol : (((downsizes k.length).take i).foldl (partStep (kept.drop (place + 1)) k) order).length ≤ 100000 := by
      have := foldl_len (partStep (kept.drop (place + 1)) k) (partStep_len _ _) ((downsizes k.length).take i) order
      rw [List.length_take, downsizes_length] at this; omega
    refine wpAny_execs_cons (wpAny_If (due_shared (s := Sh s h₃ tk₃) (k := k) hh hu D F₃ hK hkr₃ hP (size := size) (ts := ti) (by rw [up, if_neg (by decide), up, if_pos rfl]) (tt := t₂) (by rw [up, if_pos rfl]) hlen hsz fun h₄ tk₄ k₄ => ?_))
    have hrow₄ := RowAt.at (h' := h₄) hrow₃ fun o e => k₄ _ o e
    have kk4 : KO (fun b => Own env b ∨ b = oA) s.heap h₄ := kk3.trans k₄.ko
    by_cases hc : ((kept.drop (place + 1)).filter fun o => o.take size == k.take size) = []
    · rw [if_pos (by simpa using hc)]
      refine wpAny_execs_cons (append_text (s := Sh s h₄ tk₄) (x := k.take size) D.N.kind hrow₄ hol (nmL (s := Sh s h₄ tk₄) D.N (F₃.ka k₄) (D.kd rfl) hOr ⟨rfl, rfl⟩) (fun {Q' E'} hq => nmC (s := Sh s h₄ tk₄) D.N (F₃.ka k₄) (D.kd rfl) D.part (v := .str (S (k.take size)) t₂) (by rw [up, if_pos rfl]) (hq h₄ tk₄ t₂ (KA.refl _))) fun h₅ tk₅ hr₅ k₅ => ?_)
      refine wpAny_execs_nil (wpAny_execs_nil ⟨h₅, tk₅, rfl, ⟨kk4.trans (k₅.mono fun _ => .inr), ?_, _, (F₃.ka k₄).ko k₅ (fun b hb q => hoO (q ▸ hb)), hcm₃⟩, ?_⟩)
      · rw [foldl_take_succ _ _ _ _ _ hst, partStep, if_pos hc]; exact hr₅
      · refine k₅ _ o ?_ (k₄ _ o hio₃)
        obtain ⟨_, ⟨_, p⟩, _⟩ := hor
        exact Nat.ne_of_gt (Heap.lt_size (hsr _ _ p))
    · rw [if_neg (by simpa using hc)]
      refine wpAny_execs_nil (wpAny_execs_nil ⟨h₄, tk₄, rfl, ⟨kk4, ?_, _, F₃.ka k₄, hcm₃⟩, k₄ _ o hio₃⟩)
      rw [foldl_take_succ _ _ _ _ _ hst, partStep, if_neg hc]; exact hrow₄
  · rintro h tk ⟨k1, hrow, cm', F', hcm'⟩
    rw [List.take_of_length_le (by rw [downsizes_length]; exact Nat.le_refl _)] at hrow
    exact wpAny_execs_nil (nx h tk cm' F' hcm' hrow k1)
end
end Mine

namespace Mine
section
variable {prog : Program} {w : World} {A : Around} {E : Value → Shared → Prop} {s : Shared} {env : Env} {m cm mg mb : Str → Option Value}

theorem partsOf_len (later : List (List Nat)) (k : List Nat) (order : List (List Nat)) : (partsOf later k order).length ≤ order.length + k.length := by
  have := foldl_len (partStep later k) (partStep_len _ _) (downsizes k.length) order
  rw [downsizes_length] at this; exact this
theorem orderD_len (kept : List (List Nat)) (hsz : ∀ d ∈ kept, d.length ≤ 100) : ∀ i, i ≤ kept.length → ((List.range i).foldl (placeStep kept) []).length ≤ 100 * i
  | 0, _ => by simp
  | i + 1, h => by
    have ih := orderD_len kept hsz i (by omega)
    rw [List.range_succ, List.foldl_append]
    simp only [List.foldl_cons, List.foldl_nil]
    have h1 := partsOf_len (kept.drop (i + 1)) (kept.getD i []) ((List.range i).foldl (placeStep kept) [])
    have h2 : (kept.getD i []).length ≤ 100 := by
      rw [List.getD_eq_getElem?_getD, List.getElem?_eq_getElem (by omega)]
      exact hsz _ (List.getElem_mem _)
    unfold placeStep at *
    omega

theorem due_order {h₀ : Heap} {kA oA : Addr} {kept : List (List Nat)} {Q : Flow → Shared → Prop} (hh : A.handled = none) (hu : A.units < cLine) (D : DueEnv env) (F : FrC env s.heap m cm) (G : Gd h₀ mg mb) (hB : KA h₀ s.heap)
    (hO : ∀ b, Own env b → h₀.get? b = none) (ho0 : h₀.get? oA = none)
    (hK : m "kept" = some (.ref kA)) (hkr : RowL s.heap kA kept) (hOr : m "order" = some (.ref oA)) (hor : RowL s.heap oA []) (hne : kA ≠ oA)
    (hlen : kept.length ≤ 100) (hsz : ∀ d ∈ kept, d.length ≤ 100)
    (nx : ∀ h' tk m' cm', FrC env h' m' cm' → (∀ y : Str, y ≠ "place" → m' y = m y) → (∀ y : Str, y ≠ "size" → y ≠ "part" → cm' y = cm y) → RowL h' oA (orderD kept) → KO (fun b => Own env b ∨ b = oA) s.heap h' → Q .next (Sh s h' tk)) :
    wpAny (model prog w) A (exec (nthS dueBody 6) env) Q E s := by
  obtain ⟨us, hpu, hsu⟩ := id hkr
  have hul : us.length = kept.length := by rw [hsu.length, List.length_map]
  have Gs := G.keeps hB
  have hkO : ¬ Own env kA := F.ne_row hkr
  have hoO : ¬ Own env oA := F.ne_row hor
  refine for_range hh (call_t1 (nm_builtin D.N.kind (D.kd rfl) (D.gl ▸ Gs.g) Gs.range0 (D.bu ▸ Gs.b) Gs.range ⟨rfl, ?_⟩))
  refine call_b1 (nm_builtin D.N.kind (D.kd rfl) (D.gl ▸ Gs.g) Gs.len0 (D.bu ▸ Gs.b) Gs.len ⟨rfl, nmL D.N F (D.kd rfl) hK (Calls.call_len_list hpu.isList ?_ (rng1 fun hr r tkr t₁ u₁ v₁ hrange kr => ?_))⟩)
  · rw [List.size_toArray]; omega
  rw [List.size_toArray, hul] at hrange
  have hsr : KA s.heap hr := kr
  refine ⟨r, 0, kept.length, 1, _, _, _, kept.length, fun i h => KO (fun b => Own env b ∨ b = oA) s.heap h ∧ RowL h oA ((List.range i).foldl (placeStep kept) []) ∧ ∃ m' cm', FrC env h m' cm' ∧ (∀ y : Str, y ≠ "place" → m' y = m y) ∧ (∀ y : Str, y ≠ "size" → y ≠ "part" → cm' y = cm y),
    rfl, hrange, range_small (by omega) (by omega), by rw [rangeSize_nat]; simp, ?_, ?_, ?_, ?_⟩
  · intro h' k'
    exact ⟨(hsr.trans k').ko, RowAt.at hor fun o e => k' _ o (hsr _ o e), m, cm, F.ka (hsr.trans k'), fun _ _ => rfl, fun _ _ _ => rfl⟩
  · rintro i h h' ⟨a, b, m', cm', F', r⟩ k'
    have hlt : ∀ b o, s.heap.get? b = some o → b ≠ hr.objs.size := fun b o e => Nat.ne_of_lt (Heap.lt_size (hsr b o e))
    refine ⟨fun p o np e' => k' p o (hlt p o e') (a p o np e'), RowAt.ko b k' ?_, m', cm', F'.ko k' fun b hb => ?_, r⟩
    · obtain ⟨_, ⟨_, p⟩, _⟩ := hor
      exact hlt _ _ p
    · exact Nat.ne_of_lt ((F.ka hsr).lt b hb)
  · rintro i ti h tk o hi ⟨k1, hrow, m', cm', F', hm', hcm'⟩ hio
    rw [show ((0 : Int) + (i : Nat) * 1) = (i : Int) by omega]
    have hIO : ¬ Own env hr.objs.size := fun q => Nat.lt_irrefl _ ((F.ka hsr).lt _ q)
    refine wpAny_assign_Name (stL (s := Sh s h tk) D.N F' (D.kd rfl) fun h₁ tk₁ F₁ k₁ => ?_)
    have kk1 : KO (fun b => Own env b ∨ b = oA) s.heap h₁ := k1.trans (k₁.mono fun _ => .inl)
    have nW : ∀ b, (Own env b ∨ b = oA) → h₀.get? b = none := fun b q => q.elim (hO b) fun q => q ▸ ho0
    have hm₁ : ∀ y : Str, y ≠ "place" → up m' "place" (.int i ti) y = m y := fun y hy => by rw [up, if_neg hy, hm' y hy]
    have hk : kept[i]? = some kept[i] := List.getElem?_eq_getElem hi
    have hol : ((List.range i).foldl (placeStep kept) []).length ≤ 20000 := by
      have := orderD_len kept hsz i (by omega); omega
    refine wpAny_execs_cons (due_parts (s := Sh s h₁ tk₁) (place := i) (tp := ti) hh hu D F₁ G (ka_base hB kk1 nW) hO ho0 (by rw [hm₁ _ (by decide)]; exact hK) (RowAt.ko hkr kk1 fun q => q.elim hkO hne) (by rw [hm₁ _ (by decide)]; exact hOr) (RowAt.ko hrow k₁ hoO) hne (by rw [up, if_pos rfl]) hk hlen hsz hol fun h₂ tk₂ cm₂ F₂ hcm₂ hr₂ k₂ => ?_)
    refine wpAny_execs_nil ⟨h₂, tk₂, rfl, ⟨kk1.trans k₂, ?_, _, cm₂, F₂, hm₁, fun y y1 y2 => by rw [hcm₂ y y1 y2, hcm' y y1 y2]⟩, ?_⟩
    · rw [List.range_succ, List.foldl_append]
      simp only [List.foldl_cons, List.foldl_nil]
      unfold placeStep at hr₂ ⊢
      rw [List.getD_eq_getElem?_getD, hk]
      exact hr₂
    · refine k₂ _ o (fun q => q.elim hIO fun q => ?_) (k₁ _ o hIO hio)
      obtain ⟨_, ⟨_, p⟩, _⟩ := hor
      exact Nat.ne_of_gt (Heap.lt_size (hsr _ _ p)) q
  · rintro h tk ⟨k1, hrow, m', cm', F', hm', hcm'⟩
    exact wpAny_execs_nil (nx h tk m' cm' F' hm' hcm' hrow k1)

theorem upStep_down {x : Bool × List Nat} (h : x.1 = true) (order : List (List Nat)) (n : Nat) : upStep x order n = order := by unfold upStep; rw [h]; rfl
theorem upStep_in {x : Bool × List Nat} {order : List (List Nat)} {n : Nat} (h : x.2.take n ∈ order) : upStep x order n = order := by unfold upStep; rw [if_neg (by simp [h])]
theorem upStep_new {x : Bool × List Nat} {order : List (List Nat)} {n : Nat} (h1 : x.1 = false) (h : x.2.take n ∉ order) : upStep x order n = order ++ [x.2.take n] := by unfold upStep; rw [if_pos (by simp [h, h1])]
theorem upStep_len (x : Bool × List Nat) (order : List (List Nat)) (size : Nat) : (upStep x order size).length ≤ order.length + 1 := by
  unfold upStep; split <;> simp
theorem upsOf_len (x : Bool × List Nat) (order : List (List Nat)) : (upsOf order x).length ≤ order.length + x.2.length := by
  have := foldl_len (fun o i => upStep x o (i + 1)) (fun o i => upStep_len x o (i + 1)) (List.range x.2.length) order
  rw [List.length_range] at this; exact this
theorem orderU_len : ∀ (ws : List (Bool × List Nat)) (order : List (List Nat)), (∀ x ∈ ws, x.2.length ≤ 100) → (orderU ws order).length ≤ order.length + 100 * ws.length
  | [], order, _ => by simp [orderU]
  | x :: r, order, h => by
    have ih := orderU_len r (upsOf order x) fun y hy => h y (List.mem_cons_of_mem _ hy)
    have h1 := upsOf_len x order
    have h2 := h x List.mem_cons_self
    unfold orderU at *
    simp only [List.foldl_cons, List.length_cons]; omega

/-- one way up -/
theorem due_up {h₀ : Heap} {oA : Addr} {order : List (List Nat)} {x : Bool × List Nat} {tw : Tok} {Q : Flow → Shared → Prop} (hh : A.handled = none) (D : DueEnv env) (F : FrC env s.heap m cm) (G : Gd h₀ mg mb) (hB : KA h₀ s.heap)
    (hOr : m "order" = some (.ref oA)) (hor : RowL s.heap oA order) (hD : m "down" = some (.bool x.1)) (hW : cm "way" = some (.str (S x.2) tw)) (hxl : x.2.length ≤ 100) (holen : order.length ≤ 50000)
    (nx : ∀ h' tk cm', FrC env h' m cm' → (∀ y : Str, y ≠ "size" → cm' y = cm y) → RowL h' oA (upsOf order x) → KO (fun b => Own env b ∨ b = oA) s.heap h' → Q .next (Sh s h' tk)) :
    wpAny (model prog w) A (exec (nthS (loopBody (nthS dueBody 8)) 0) env) Q E s := by
  have Gs := G.keeps hB
  have hoO : ¬ Own env oA := F.ne_row hor
  refine for_range hh (call_t2 (nm_builtin D.N.kind (D.kd rfl) (D.gl ▸ Gs.g) Gs.range0 (D.bu ▸ Gs.b) Gs.range ⟨rfl, wpAny_Constant_int ?_⟩))
  refine bin_const (call_b1 (nm_builtin (s := Sh s s.heap _) D.N.kind (D.kd rfl) (D.gl ▸ Gs.g) Gs.len0 (D.bu ▸ Gs.b) Gs.len ⟨rfl, nmC (s := Sh s s.heap _) D.N F (D.kd rfl) D.way hW (PyProof.Rows.len_str (by rw [S_length]; omega) (PyProof.Rows.add_int (rng2 fun hr r tkr t₁ u₁ v₁ hrange kr => ?_)))⟩))
  rw [S_length] at hrange
  have hsr : KA s.heap hr := kr
  refine ⟨r, 1, _, 1, _, _, _, x.2.length, fun i h => KO (fun b => Own env b ∨ b = oA) s.heap h ∧ RowL h oA ((List.range i).foldl (fun o j => upStep x o (j + 1)) order) ∧ ∃ cm', FrC env h m cm' ∧ (∀ y : Str, y ≠ "size" → cm' y = cm y),
    rfl, hrange, range_small (by omega) (by omega), by rw [rangeSize_nat]; omega, ?_, ?_, ?_, ?_⟩
  · intro h' k'
    exact ⟨(hsr.trans k').ko, RowAt.at hor fun o e => k' _ o (hsr _ o e), cm, F.ka (hsr.trans k'), fun _ _ => rfl⟩
  · rintro i h h' ⟨a, b, cm', F', r⟩ k'
    have hlt : ∀ b o, s.heap.get? b = some o → b ≠ hr.objs.size := fun b o e => Nat.ne_of_lt (Heap.lt_size (hsr b o e))
    refine ⟨fun p o np e' => k' p o (hlt p o e') (a p o np e'), RowAt.ko b k' ?_, cm', F'.ko k' fun b hb => ?_, r⟩
    · obtain ⟨_, ⟨_, p⟩, _⟩ := hor
      exact hlt _ _ p
    · exact Nat.ne_of_lt ((F.ka hsr).lt b hb)
  · rintro i ti h tk o hi ⟨k1, hrow, cm', F', hcm'⟩ hio
    rw [show ((1 : Int) + (i : Nat) * 1) = ((i + 1 : Nat) : Int) by omega]
    have hIO : ¬ Own env hr.objs.size := fun q => Nat.lt_irrefl _ ((F.ka hsr).lt _ q)
    have hIo : hr.objs.size ≠ oA := by
      obtain ⟨_, ⟨_, p⟩, _⟩ := hor
      exact Nat.ne_of_gt (Heap.lt_size (hsr _ _ p))
    refine wpAny_assign_Name (stC (s := Sh s h tk) D.N F' (D.kd rfl) D.size fun h₁ tk₁ F₁ k₁ => ?_)
    have kk1 : KO (fun b => Own env b ∨ b = oA) s.heap h₁ := k1.trans (k₁.mono fun _ => .inl)
    have hrow₁ := RowAt.ko hrow k₁ hoO
    have hcm₁ : ∀ y : Str, y ≠ "size" → up cm' "size" (.int ((i + 1 : Nat) : Int) ti) y = cm y := fun y y1 => by rw [up, if_neg y1, hcm' y y1]
    have hway₁ : up cm' "size" (.int ((i + 1 : Nat) : Int) ti) "way" = some (.str (S x.2) tw) := by rw [hcm₁ _ (by decide)]; exact hW
    have hol : ((List.range i).foldl (fun o j => upStep x o (j + 1)) order).length ≤ 100000 := by
      have := foldl_len (fun o j => upStep x o (j + 1)) (fun o j => upStep_len x o (j + 1)) (List.range i) order
      rw [List.length_range] at this; omega
    have cut : ∀ {h' tk' E'} {p1 p2 p3 p4 : Pos} {Q' : Value → Shared → Prop}, KA h₁ h' → (∀ h'' tk'' t'', KA h' h'' → Q' (.str (S (x.2.take (i + 1))) t'') (Sh s h'' tk'')) →
        wpAny (model prog w) A (eval (.Subscript (.Name (Str.ofString "way") p1) (.Slice none (some (.Name (Str.ofString "size") p2)) none p3) p4) env) Q' E' (Sh s h' tk') := by
      intro h' tk' E' p1 p2 p3 p4 Q' k' hq
      exact slice_to (nmC (s := Sh s h' tk') D.N (F₁.ka k') (D.kd rfl) D.way hway₁ (nmC (s := Sh s h' tk') D.N (F₁.ka k') (D.kd rfl) D.size (v := .int ((i + 1 : Nat) : Int) ti) (by rw [up, if_pos rfl]) ⟨x.2, tw, i + 1, ti, rfl, rfl, by omega, fun h'' tk'' t'' k'' => hq h'' tk'' t'' k''⟩))
    have hstay : ∀ h' tk', KA h₁ h' → (List.range (i + 1)).foldl (fun o j => upStep x o (j + 1)) order = (List.range i).foldl (fun o j => upStep x o (j + 1)) order →
        TurnEnd Q (fun s₄ => ∃ h'' tk'', s₄ = Sh s h'' tk'' ∧ (KO (fun b => Own env b ∨ b = oA) s.heap h'' ∧ RowL h'' oA ((List.range (i + 1)).foldl (fun o j => upStep x o (j + 1)) order) ∧ ∃ cm', FrC env h'' m cm' ∧ (∀ y : Str, y ≠ "size" → cm' y = cm y)) ∧ h''.get? hr.objs.size = some o) .next (Sh s h' tk') := by
      intro h' tk' k' e
      exact ⟨h', tk', rfl, ⟨kk1.trans k'.ko, by rw [e]; exact RowAt.at hrow₁ fun o e => k' _ o e, _, F₁.ka k', hcm₁⟩, k' _ o (k₁ _ o hIO hio)⟩
    have hsucc : (List.range (i + 1)).foldl (fun o j => upStep x o (j + 1)) order = upStep x ((List.range i).foldl (fun o j => upStep x o (j + 1)) order) (i + 1) := by
      rw [List.range_succ, List.foldl_append]; rfl
    refine wpAny_execs_cons (wpAny_If (wpAny_isTrue_BoolOp (wpAny_allTrue_And_cons (wpAny_isTrue_Not (wpAny_isTrue_value (nmL (s := Sh s h₁ tk₁) D.N F₁ (D.kd rfl) hD (wpAny_truthy_bool ?_)) rfl)))))
    by_cases hx1 : x.1 = true
    · rw [hx1, if_neg (by decide), if_neg Bool.false_ne_true]
      exact wpAny_execs_nil (wpAny_execs_nil (hstay h₁ _ (KA.refl _) (by rw [hsucc]; exact upStep_down hx1 _ _)))
    · have hx1' : x.1 = false := by simpa using hx1
      rw [hx1', if_pos (by rfl)]
      refine wpAny_allTrue_And_cons (wpAny_isTrue_Compare1 (cut (KA.refl _) fun h₂ tk₂ t₂ k₂ => nmL (s := Sh s h₂ tk₂) D.N (F₁.ka k₂) (D.kd rfl) hOr ?_) rfl)
      obtain ⟨us, hpu, hsu⟩ := RowAt.at (h' := h₂) hrow₁ fun o e => k₂ _ o e
      refine notin_strs (s := Sh s h₂ tk₂) hpu.isList hsu (wpAny_truthy_bool ?_)
      by_cases hin : x.2.take (i + 1) ∈ (List.range i).foldl (fun o j => upStep x o (j + 1)) order
      · rw [if_neg (by simpa using mem_S.mpr hin), if_neg Bool.false_ne_true]
        exact wpAny_execs_nil (wpAny_execs_nil (hstay h₂ _ k₂ (by rw [hsucc]; exact upStep_in hin)))
      · rw [if_pos (by simpa using fun q => hin (mem_S.mp q))]
        refine wpAny_allTrue_And_nil ?_
        rw [if_pos rfl]
        have hrow₂ := RowAt.at (h' := h₂) hrow₁ fun o e => k₂ _ o e
        refine wpAny_execs_cons (append_text (s := Sh s h₂ tk₂) (x := x.2.take (i + 1)) D.N.kind hrow₂ hol (nmL (s := Sh s h₂ tk₂) D.N (F₁.ka k₂) (D.kd rfl) hOr ⟨rfl, rfl⟩) (fun {Q' E'} hq => cut k₂ fun h'' tk'' t'' k'' => hq h'' tk'' t'' k'') fun h₅ tk₅ hr₅ k₅ => ?_)
        refine wpAny_execs_nil (wpAny_execs_nil ⟨h₅, tk₅, rfl, ⟨(kk1.trans k₂.ko).trans (k₅.mono fun _ => .inr), ?_, _, (F₁.ka k₂).ko k₅ (fun b hb q => hoO (q ▸ hb)), hcm₁⟩, k₅ _ o hIo (k₂ _ o (k₁ _ o hIO hio))⟩)
        rw [hsucc, upStep_new hx1' hin]; exact hr₅
  · rintro h tk ⟨k1, hrow, cm', F', hcm'⟩
    exact wpAny_execs_nil (nx h tk cm' F' hcm' hrow k1)
end
end Mine

namespace Mine
section
variable {prog : Program} {w : World} {A : Around} {E : Value → Shared → Prop} {s : Shared} {env : Env} {m cm mg mb : Str → Option Value}

theorem row_ne_tup {h : Heap} {a T : Addr} {xs : List Str} {items : Array Value} (hr : RowAt h a xs) (ht : h.get? T = some { cls := .type "tuple", data := .seq items }) : T ≠ a := by
  rintro rfl
  obtain ⟨vs, ⟨n, p⟩, _⟩ := hr
  rw [ht] at p
  have := congrArg (fun o => o.map (·.cls)) p
  simp at this

/-- the ways up -/
theorem due_ups {h₀ : Heap} {oA R : Addr} {ws : List (Bool × List Nat)} {order : List (List Nat)} {Q : Flow → Shared → Prop} (hh : A.handled = none) (D : DueEnv env) (F : FrC env s.heap m cm) (G : Gd h₀ mg mb) (hB : KA h₀ s.heap)
    (hO : ∀ b, Own env b → h₀.get? b = none) (ho0 : h₀.get? oA = none) (hR : m "ways" = some (.ref R)) (hw : WaysAt s.heap R ws) (hRo : R ≠ oA)
    (hOr : m "order" = some (.ref oA)) (hor : RowL s.heap oA order) (hlen : ws.length ≤ 100) (hsz : ∀ x ∈ ws, x.2.length ≤ 100) (holen : order.length ≤ 30000)
    (nx : ∀ h' tk m' cm', FrC env h' m' cm' → (∀ y : Str, y ≠ "down" → m' y = m y) → RowL h' oA (orderU ws order) → KO (fun b => Own env b ∨ b = oA) s.heap h' → Q .next (Sh s h' tk)) :
    wpAny (model prog w) A (exec (nthS dueBody 8) env) Q E s := by
  obtain ⟨vs, hl, hvl, hT⟩ := hw
  have hoO : ¬ Own env oA := F.ne_row hor
  have hRO : ¬ Own env R := F.ne_list hl
  refine for_list hh (nmL D.N F (D.kd rfl) hR ?_)
  refine ⟨R, vs, fun i h => KO (fun b => Own env b ∨ b = oA) s.heap h ∧ RowL h oA ((ws.take i).foldl upsOf order) ∧ ∃ m' cm', FrC env h m' cm' ∧ (∀ y : Str, y ≠ "down" → m' y = m y), rfl, hl, ?_, ?_, ?_, ?_⟩
  · intro h' k
    exact ⟨k.ko, RowAt.at hor fun o e => k _ o e, m, cm, F.ka k, fun _ _ => rfl⟩
  · rintro i h h' ⟨a, b, m', cm', F', r⟩ k
    exact ⟨fun p o np e' => k p o (Nat.ne_of_lt (Heap.lt_size e')) (a p o np e'), RowAt.ko b k (Nat.ne_of_lt (RowAt.lt hor)), m', cm', F'.ko k fun b hb => Nat.ne_of_lt (F.lt b hb), r⟩
  · rintro i v h tk hv ⟨k, hrow, m', cm', F', hm'⟩ hit hl'
    have hi : i < ws.length := by rw [← hvl]; exact (List.getElem?_eq_some_iff.mp hv).1
    have hx : ws[i]? = some ws[i] := List.getElem?_eq_getElem hi
    generalize ws[i] = x at hx
    have ht : TupOf h v x := (hT i v x hv hx).at fun T o e p => by
      obtain ⟨T', t', e', p'⟩ := hT i v x hv hx
      rw [e] at e'; cases e'
      exact k T o (fun q => q.elim (F.ne_tup p') (row_ne_tup hor p')) p
    have hxl := hsz x (List.mem_of_getElem? hx)
    have hol : ((ws.take i).foldl upsOf order).length ≤ 50000 := by
      have := orderU_len (ws.take i) order fun y hy => hsz y (List.mem_of_mem_take hy)
      unfold orderU at this
      rw [List.length_take] at this; omega
    have hIO : ¬ Own env s.heap.objs.size := fun q => Nat.lt_irrefl _ (F.lt _ q)
    have nW : ∀ b, (Own env b ∨ b = oA) → h₀.get? b = none := fun b q => q.elim (hO b) fun q => q ▸ ho0
    refine go_tup (s := Sh s h tk) hit ht (asg_pair (s := Sh s h tk) hh ht fun h₁ tk₁ t k₁ => ?_)
    refine wpAny_assign_Name (stL (s := Sh s h₁ tk₁) D.N (F'.ka k₁) (D.kd rfl) fun h₂ tk₂ F₂ k₂ => ?_)
    refine wpAny_assign_Name (stC (s := Sh s h₂ tk₂) D.N F₂ (D.kd rfl) D.way fun h₃ tk₃ F₃ k₃ => ?_)
    have k23 : KO (Own env) h h₃ := (k₁.ko.trans k₂).trans k₃
    have k03 : KO (fun b => Own env b ∨ b = oA) s.heap h₃ := k.trans (k23.mono fun _ => .inl)
    have hm₃ : ∀ y : Str, y ≠ "down" → up m' "down" (.bool x.1) y = m y := fun y hy => by rw [up, if_neg hy, hm' y hy]
    refine wpAny_execs_cons (due_up (s := Sh s h₃ tk₃) (x := x) (tw := t) hh D F₃ G (ka_base hB k03 nW) (by rw [hm₃ _ (by decide)]; exact hOr) (RowAt.ko hrow k23 hoO) (by rw [up, if_pos rfl]) (by rw [up, if_pos rfl]) hxl hol fun h₄ tk₄ cm₄ F₄ hcm₄ hr₄ k₄ => ?_)
    refine wpAny_execs_nil ⟨h₄, tk₄, rfl, ⟨k03.trans k₄, ?_, _, cm₄, F₄, hm₃⟩, ?_, ?_⟩
    · rw [foldl_take_succ _ _ _ _ _ hx]; exact hr₄
    · exact fun o e => k₄ _ o (fun q => q.elim hIO (Nat.ne_of_gt (RowAt.lt hor))) (k23 _ o hIO e)
    · exact fun o e => k₄ _ o (fun q => q.elim hRO hRo) (k23 _ o hRO e)
  · rintro h tk ⟨k, hrow, m', cm', F', hm'⟩
    rw [hvl, List.take_length] at hrow
    exact wpAny_execs_nil (nx h tk m' cm' F' hm' hrow k)

theorem dns_len (ws : List (Bool × List Nat)) : (dns ws).length ≤ ws.length := by
  unfold dns; rw [List.length_map]; exact List.length_filter_le _ _
theorem dns_mem {ws : List (Bool × List Nat)} {d : List Nat} (h : d ∈ dns ws) : ∃ x ∈ ws, x.1 = true ∧ x.2 = d := by
  unfold dns at h
  obtain ⟨x, hx, rfl⟩ := List.mem_map.mp h
  obtain ⟨a, b⟩ := List.mem_filter.mp hx
  exact ⟨x, a, b, rfl⟩
theorem keptFold_mem (ds : List (List Nat)) : ∀ (l acc : List (List Nat)) (d : List Nat), d ∈ l.foldl (keptStep ds) acc → d ∈ acc ∨ d ∈ l
  | [], acc, d, h => .inl h
  | x :: r, acc, d, h => by
    rcases keptFold_mem ds r (keptStep ds acc x) d h with h | h
    · unfold keptStep at h
      split at h
      · rcases List.mem_append.mp h with h | h
        · exact .inl h
        · exact .inr (List.mem_singleton.mp h ▸ List.mem_cons_self)
      · exact .inl h
    · exact .inr (List.mem_cons_of_mem _ h)
theorem kept_mem {ds : List (List Nat)} {d : List Nat} (h : d ∈ keptL ds) : d ∈ ds := (keptFold_mem ds ds [] d h).resolve_left (by simp)
theorem kept_len (ds : List (List Nat)) : (keptL ds).length ≤ ds.length := by
  have := foldl_len (keptStep ds) (keptStep_len ds) ds []
  unfold keptL
  simpa using this

theorem due_call {f R : Addr} {ws : List (Bool × List Nat)} {Q : Value → Shared → Prop} (hh : A.handled = none) (hroom : A.depth < recursionLimit) (hu : A.units + 3 < cLine) (G : Gd s.heap mg mb)
    (hf : FnAt s.heap f dueBody dueScope "ways") (hw : WaysAt s.heap R ws) (hlen : ws.length ≤ 100) (hsz : ∀ x ∈ ws, x.2.length ≤ 100)
    (nx : ∀ v h' tk, KA s.heap h' → (match dueL ws with | none => v = .none | some order => ∃ D, v = .ref D ∧ s.heap.get? D = none ∧ RowL h' D order) → Q v (Sh s h' tk)) :
    wpAny (model prog w) A (call (.ref f) [.ref R]) Q E s := by
  obtain ⟨o, fd, ho, hd, hcd, hbody, hscope, hgl, hbu, hcl, hbind⟩ := hf
  refine wpAny_call (codeAny_call_cells hroom ho hd G.lim hcd hbody (hbind _) hcl ?_ ?_ (by rw [hscope]; rfl) (by rw [hscope]; rfl) (by rw [hscope]; rfl))
  · intro x hx
    rw [List.mem_singleton.mp hx, hscope]; exact .inl rfl
  intro s₁ hin
  have hsc : (callEnvC fd s.heap.objs.size f).scope = dueScope := hscope
  have hm : bindL (callEnvC fd s.heap.objs.size f).kindOf [(Str.ofString "ways", .ref R)] (fun _ => none) (Str.ofString "ways") = some (.ref R) := by
    unfold bindL Env.kindOf
    rw [hsc]; rfl
  have hce : (callEnvC fd s.heap.objs.size f).cells = [(Str.ofString "part", s.heap.objs.size + 4), (Str.ofString "size", s.heap.objs.size + 3), (Str.ofString "firsts", s.heap.objs.size + 2), (Str.ofString "way", s.heap.objs.size + 1)] := by
    show cellsFrom _ fd.scope.names [] = _
    rw [hscope]; rfl
  have hel : (callEnvC fd s.heap.objs.size f).locals = s.heap.objs.size := rfl
  generalize hbl : bindL (callEnvC fd s.heap.objs.size f).kindOf [(Str.ofString "ways", .ref R)] (fun _ => none) = m at hin hm
  generalize hbc : bindC (callEnvC fd s.heap.objs.size f).kindOf [(Str.ofString "ways", .ref R)] (fun _ => none) = cm at hin
  have heg : (callEnvC fd s.heap.objs.size f).globals = mainGlobals := hgl
  have heb : (callEnvC fd s.heap.objs.size f).builtins = builtinsNs := hbu
  generalize henv : callEnvC fd s.heap.objs.size f = env at hin hsc hce hel heg heb
  clear hbl hbc
  obtain ⟨⟨⟨h₁, tk₁, rfl⟩, hns, hkeep, hfresh⟩, hcell, hap, habove⟩ := hin
  have N : EnvC env := by
    refine ⟨by rw [hsc]; rfl, fun n n' c h h' => ?_, fun n c h => Nat.ne_of_gt (habove n c (mem_of_lookup h))⟩
    exact name_of_addr hap (mem_of_lookup h) (mem_of_lookup h')
  have D : DueEnv env := ⟨N, hsc, heg, heb, by rw [hce, hel]⟩
  have F : FrC env h₁ m cm := ⟨hns, hcell⟩
  have hO : ∀ b, Own env b → s.heap.get? b = none := by
    rintro b (rfl | ⟨n, hc⟩)
    · exact Heap.get?_none_of_le (Nat.le_of_eq hel.symm)
    · exact Heap.get?_none_of_le (Nat.le_of_lt (hel ▸ habove n b (mem_of_lookup hc)))
  have kin : ∀ {h'}, KO (Own env) h₁ h' → KA s.heap h' := fun k => ka_base hkeep k hO
  have hA : (A.deeper env).handled = none := hh
  have hu' : (A.deeper env).units < cLine := by rw [Around.deeper_units]; omega
  have fresh : ∀ {h' b}, KA s.heap h' → h'.get? b = none → s.heap.get? b = none := fun {h' b} k e => by
    cases q : s.heap.get? b with
    | none => rfl
    | some o => have := k _ _ q; rw [e] at this; cases this
  refine wpAny_execs_cons (due_downs (s := Sh s h₁ tk₁) hA D F hm (hw.ka hkeep) hlen fun h₂ tk₂ dA hdA hdr F₂ k₂ => ?_)
  have ka₂ := kin k₂
  have hdl : (dns ws).length ≤ 100 := Nat.le_trans (dns_len ws) hlen
  have hdsz : ∀ d ∈ dns ws, d.length ≤ 100 := fun d hd => by obtain ⟨x, hx, _, rfl⟩ := dns_mem hd; exact hsz x hx
  refine wpAny_execs_cons (due_firsts (s := Sh s h₂ tk₂) hA D F₂ (by rw [up, if_pos rfl]) hdr hdl hdsz fun h₃ tk₃ fA hfA hfr F₃ k₃ => ?_)
  have ka₃ := kin (k₂.trans k₃)
  have hm₃ : up m "downs" (.ref dA) "ways" = some (.ref R) := by rw [up, if_neg (by decide)]; exact hm
  refine wpAny_execs_cons (due_clash (s := Sh s h₃ tk₃) hA hu' D F₃ hm₃ (hw.ka ka₃) hlen hsz (by rw [up, if_pos rfl]) hfr ?_ ?_)
  · intro hc h₄ tk₄ k₄
    refine nx .none h₄ tk₄ (ka₃.trans k₄) ?_
    rw [dueL, if_pos hc]
  · intro hc h₄ tk₄ k₄
    refine wpAny_execs_cons (wpAny_Assign_Name (nil_list (s := Sh s h₄ tk₄) fun h₅ tk₅ kA hkA hkr k₅ => stL (s := Sh s h₅ tk₅) D.N ((F₃.ka k₄).ka k₅) (D.kd rfl) fun h₆ tk₆ F₆ k₆ => ?_))
    have k36 : KO (Own env) h₃ h₆ := (k₄.trans k₅).ko.trans k₆
    have ka₆ := ka_base ka₃ k36 hO
    have hkr₆ : RowL h₆ kA [] := RowAt.ko hkr k₆ ((((F₃.ka k₄).ka k₅)).ne_row hkr)
    have hdO : ¬ Own env dA := F₂.ne_row hdr
    have hdr₆ : RowL h₆ dA (dns ws) := RowAt.ko (RowAt.ko hdr k₃ hdO) k36 hdO
    have hkA0 : s.heap.get? kA = none := fresh (ka₃.trans k₄) hkA
    have hdk : dA ≠ kA := by
      rintro rfl
      obtain ⟨_, ⟨_, p⟩, _⟩ := RowAt.at (h' := h₄) (RowAt.ko hdr k₃ hdO) fun o e => k₄ _ o e
      rw [hkA] at p; cases p
    refine wpAny_execs_cons (due_kept (s := Sh s h₆ tk₆) (dA := dA) (kA := kA) hA hu' D F₆ G ka₆ hO hkA0 (by rw [up, if_neg (by decide), up, if_pos rfl]) (by rw [up, if_pos rfl]) hdr₆ hkr₆ hdk hdl hdsz fun h₇ tk₇ m₇ cm₇ F₇ hm₇ hcm₇ hkr₇ k₇ => ?_)
    have nWk : ∀ b, (Own env b ∨ b = kA) → s.heap.get? b = none := fun b q => q.elim (hO b) fun q => q ▸ hkA0
    have ka₇ := ka_base ka₆ k₇ nWk
    refine wpAny_execs_cons (wpAny_Assign_Name (nil_list (s := Sh s h₇ tk₇) fun h₈ tk₈ oA hoA hor k₈ => stL (s := Sh s h₈ tk₈) D.N (F₇.ka k₈) (D.kd rfl) fun h₉ tk₉ F₉ k₉ => ?_))
    have ka₉ := ka_base (ka₇.trans k₈) k₉ hO
    have hoA0 : s.heap.get? oA = none := fresh ka₇ hoA
    have hor₉ : RowL h₉ oA [] := RowAt.ko hor k₉ ((F₇.ka k₈).ne_row hor)
    have hkO : ¬ Own env kA := F₇.ne_row hkr₇
    have hkr₉ : RowL h₉ kA (keptL (dns ws)) := RowAt.ko (RowAt.at hkr₇ fun o e => k₈ _ o e) k₉ hkO
    have hko : kA ≠ oA := by
      rintro rfl
      obtain ⟨_, ⟨_, p⟩, _⟩ := hkr₇
      rw [hoA] at p; cases p
    have hm₉ : up m₇ "order" (.ref oA) "ways" = some (.ref R) := by rw [up, if_neg (by decide), hm₇ _ (by decide), up, if_neg (by decide)]; exact hm₃
    have hklen : (keptL (dns ws)).length ≤ 100 := Nat.le_trans (kept_len _) hdl
    have hksz : ∀ d ∈ keptL (dns ws), d.length ≤ 100 := fun d hd => hdsz d (kept_mem hd)
    refine wpAny_execs_cons (due_order (s := Sh s h₉ tk₉) (kA := kA) (oA := oA) hA hu' D F₉ G ka₉ hO hoA0 (by rw [up, if_neg (by decide), hm₇ _ (by decide), up, if_pos rfl]) hkr₉ (by rw [up, if_pos rfl]) hor₉ hko hklen hksz fun ha tka ma cma Fa hma hcma hra ka' => ?_)
    have nWo : ∀ b, (Own env b ∨ b = oA) → s.heap.get? b = none := fun b q => q.elim (hO b) fun q => q ▸ hoA0
    have kaa := ka_base ka₉ ka' nWo
    have holen : (orderD (keptL (dns ws))).length ≤ 20000 := by
      have := orderD_len (keptL (dns ws)) hksz _ (Nat.le_refl _)
      unfold orderD; omega
    have hoO : ¬ Own env oA := Fa.ne_row hra
    have hOra : ma "order" = some (.ref oA) := by rw [hma _ (by decide), up, if_pos rfl]
    refine wpAny_execs_cons (append_text (s := Sh s ha tka) (x := []) D.N.kind hra (by omega) (nmL (s := Sh s ha tka) D.N Fa (D.kd rfl) hOra ⟨rfl, rfl⟩) (fun {Q' E'} hq => wpAny_Constant_str (by rw [S_nil]; exact hq ha _ _ (KA.refl _))) fun hb tkb hrb kb => ?_)
    have nWo1 : ∀ b, b = oA → s.heap.get? b = none := fun b q => q ▸ hoA0
    have kab := ka_base kaa kb nWo1
    have Fb : FrC env hb ma cma := Fa.ko kb fun b hb' q => hoO (q ▸ hb')
    have hRo : R ≠ oA := by
      rintro rfl
      obtain ⟨_, ⟨_, p, _⟩, _⟩ := hw
      rw [hoA0] at p; cases p
    refine wpAny_execs_cons (due_ups (s := Sh s hb tkb) (R := R) (oA := oA) hA D Fb G kab hO hoA0 (by rw [hma _ (by decide)]; exact hm₉) (hw.ka kab) hRo hOra hrb hlen hsz (by rw [List.length_append, List.length_singleton]; omega) fun hc tkc mc cmc Fc hmc hrc kc => ?_)
    refine wpAny_execs_cons (wpAny_Return_some (nmL (s := Sh s hc tkc) D.N Fc (D.kd rfl) (v := .ref oA) (by rw [hmc _ (by decide)]; exact hOra) ?_))
    refine nx (.ref oA) hc tkc (ka_base kab kc nWo) ?_
    rw [dueL, if_neg (by simpa using ‹clashL ws = []›)]
    exact ⟨oA, rfl, hoA0, hrc⟩
end
end Mine

namespace Mine
def lawBody : List Stmt := fnBody (topS 5)
def lawScope : Scope := fnScope (topS 5)

/-- the frame of law -/
structure LawEnv (env : Env) : Prop where
  N : EnvC env
  sc : env.scope = lawScope
  gl : env.globals = mainGlobals
  bu : env.builtins = builtinsNs
  fr : env.frame = some env.locals
  ce : env.cells = [(Str.ofString "way", env.locals + 1)]
theorem LawEnv.kd {env : Env} (D : LawEnv env) {y : Str} {k : NameKind} (e : lawScope.names.lookup y = some k) : env.kindOf y = some k := by unfold Env.kindOf; rw [D.sc]; exact e
theorem LawEnv.way {env : Env} (D : LawEnv env) : env.cells.lookup (Str.ofString "way") = some (env.locals + 1) := by rw [D.ce]; rfl

def intOf : Value → Option Int
  | .int x _ => some x
  | _ => none
def Ints (vs : List Value) (ns : List Int) : Prop := vs.map intOf = ns.map some
theorem Ints.of {vs : List Value} {ns : List Int} (h : IntsAre vs ns) : Ints vs ns := by
  induction h with
  | nil => rfl
  | cons n t _ ih => unfold Ints at *; simp [ih, intOf]
theorem Ints.get' {vs : List Value} {xs : List Int} (h : Ints vs xs) {i : Nat} {v : Value} (hv : vs[i]? = some v) : ∃ x t, xs[i]? = some x ∧ v = .int x t := by
  have := congrArg (fun l => l[i]?) h
  simp only [List.getElem?_map, hv, Option.map_some] at this
  obtain ⟨x, hx, e⟩ := Option.map_eq_some_iff.mp this.symm
  cases v <;> simp [intOf] at e
  exact ⟨x, _, hx, by rw [e]⟩
theorem Ints.length {vs : List Value} {xs : List Int} (h : Ints vs xs) : vs.length = xs.length := by simpa using congrArg List.length h

def wayOf (x : Int) : Bool × List Nat := (downB x, wayL x)
def waysL (ns : List Int) : List (Bool × List Nat) := (ns.take 5 ++ [43, 22, 12]).map wayOf

section
variable {prog : Program} {w : World} {A : Around} {E : Value → Shared → Prop} {s : Shared} {env : Env} {m cm mg mb : Str → Option Value}

/-- the first comprehension's source -/
def srcExpr : Expr := match nthS lawBody 0 with
  | .Assign _ (.ListComp _ [⟨_, it, _, _⟩] _ _) _ => it
  | _ => .Constant .none 0 default
/-- the numbers -/
theorem law_src {R : Addr} {vs : List Value} {ns : List Int} {Q : Value → Shared → Prop} (D : LawEnv env) (F : FrC env s.heap m cm) (hR : m "script" = some (.ref R)) (hl : s.heap.IsList R vs.toArray) (hv : Ints vs ns) (hlen : vs.length ≤ 100)
    (nx : ∀ h' tk l us, h'.IsList l us.toArray → Ints us (ns.take 5 ++ [43, 22, 12]) → us.length ≤ 10 → KA s.heap h' → Q (.ref l) (Sh s h' tk)) :
    wpAny (model prog w) A (eval srcExpr env) Q E s := by
  refine wpAny_BinOp (wpAny_Subscript_list_slice (nmL D.N F (D.kd rfl) hR ?_))
  rw [evalPart_none, evalPart_some]
  refine wpAny_pure (wpAny_Constant_int ⟨R, vs.toArray, none, some 5, rfl, hl, ?_, .none, .int _ _, ?_⟩)
  · rw [List.size_toArray, show sizeLine = 2 ^ 24 from rfl]; omega
  have e : slicePick vs.toArray none (some (5 : Int)) none = (vs.take 5).toArray := slicePick_upto' vs.toArray 5
  rw [e]
  generalize hh₁ : (s.heap.push { cls := .type "slice", data := .fields #[.none, .int 5 s.toks, .none] }).push { cls := .type "list", data := .seq (vs.take 5).toArray } = h₁
  have k₁ : KA s.heap h₁ := hh₁ ▸ (KA.push _ _).trans (KA.push _ _)
  have hp₁ : IsL h₁ (s.heap.objs.size + 1) (vs.take 5).toArray 0 := by
    have := Heap.get?_push_size (s.heap.push { cls := .type "slice", data := .fields #[.none, .int 5 s.toks, .none] }) (o := { cls := .type "list", data := .seq (vs.take 5).toArray }) rfl
    rw [Heap.size_push] at this
    rw [hh₁] at this
    exact this
  refine wpAny_List (Calls.spliced_cons (wpAny_Constant_int (k := 0) (pos := default) (env := env) (Calls.spliced_cons (wpAny_Constant_int (k := 0) (pos := default) (env := env) (Calls.spliced_cons (wpAny_Constant_int (k := 0) (pos := default) (env := env) (Calls.spliced_nil ⟨(show (3 : Nat) ≤ sizeLine by decide), ?_⟩)))))))
  refine P.add_list (hp₁.push _) (IsL.new ..) ?_ (by rw [List.size_toArray, List.size_toArray, List.length_take, show sizeLine = 2 ^ 24 from rfl]; simp; omega)
  refine nx _ _ _ (vs.take 5 ++ [.int 43 (s.toks + 1), .int 22 (s.toks + 1 + 1), .int 12 (s.toks + 1 + 1 + 1)]) ⟨_, Heap.get?_push_size _ rfl, rfl, 0, ?_⟩ ?_ ?_ ((k₁.trans (KA.push _ _)).trans (KA.push _ _))
  · simp
  · unfold Ints at hv ⊢
    rw [List.map_append, List.map_append, List.map_take, hv, List.map_take]
    rfl
  · simp; omega

/-- the call of a def of one parameter, by its name -/
theorem call_fn {f : Str} {np pos : Pos} {e : Expr} {a : Addr} {body : List Stmt} {scope : Scope} {par : Str} {Q : Value → Shared → Prop}
    (h : wpAny (model prog w) A (eval (.Name f np) env) (fun v s₁ => v = .ref a ∧ wpAny (model prog w) A (eval e env) (fun x s₂ => FnAt s₂.heap a body scope par ∧ wpAny (model prog w) A (call (.ref a) [x]) Q E s₂) E s₁) E s)
    (hst : backTo pos (starEach [e] env) = [(false, eval e env)] := by rfl) : wpAny (model prog w) A (eval (.Call (.Name f np) [e] [] pos) env) Q E s := by
  refine wpAny_Call_ofName (wpAny_mono h (fun f s₁ h₁ => ?_) fun _ _ e => e)
  obtain ⟨rfl, h₁⟩ := h₁
  rw [hst]
  refine callWith_of (P := fun h => FnAt h a body scope par) rfl (fun h ⟨o, fd, ho, hd, _⟩ => ?_) (Calls.evalArgs_plain (Calls.spliced_cons (wpAny_mono h₁ (fun v s₂ h₂ => Calls.spliced_nil h₂) fun _ _ e => e)))
  obtain ⟨c, d, dt, sl⟩ := o
  dsimp only at hd
  subst hd
  exact ⟨.frame, .inl rfl, (Looks.ld (part := none) ho).andThen .now⟩
end
end Mine

namespace Mine
section
variable {prog : Program} {w : World} {A : Around} {E : Value → Shared → Prop} {s : Shared} {env : Env} {m cm mg mb : Str → Option Value}

/-- a tuple that stands at v, off some addresses -/
def TupX (bad : Addr → Prop) (h : Heap) (v : Value) (x : Bool × List Nat) : Prop := ∃ T t, v = .ref T ∧ h.get? T = some { cls := .type "tuple", data := .seq #[.bool x.1, .str (S x.2) t] } ∧ ¬ bad T

/-- the ways of the numbers -/
theorem law_ways {h₀ : Heap} {R fw : Addr} {vs : List Value} {ns : List Int} {Q : Flow → Shared → Prop} (hh : A.handled = none) (hroom : A.depth < recursionLimit) (D : LawEnv env) (F : FrC env s.heap m cm) (G : Gd h₀ mg mb) (hB : KA h₀ s.heap)
    (hfw : FnAt h₀ fw wayBody wayScope "x") (hgw : mg "_law_way" = some (.ref fw)) (hR : m "script" = some (.ref R)) (hl : s.heap.IsList R vs.toArray) (hv : Ints vs ns) (hlen : vs.length ≤ 100)
    (nx : ∀ h' tk W, s.heap.get? W = none → WaysAt h' W (waysL ns) → FrC env h' (up m "ways" (.ref W)) cm → KO (Own env) s.heap h' → Q .next (Sh s h' tk)) :
    wpAny (model prog w) A (exec (nthS lawBody 0) env) Q E s := by
  refine comp_assign (cl := []) ?_ (closureFor_none (by decide)) (by decide) rfl (by decide) (D.kd rfl) (by rw [D.N.kind]; rfl) (law_src D F hR hl hv hlen fun h₁ tk₁ l us hus hui hul k₁ => ?_)
  · have hsc := D.sc
    obtain ⟨sc, lo, gl, ce, qu, fu, co, fr, bu⟩ := env
    dsimp only at hsc
    subst hsc
    rfl
  have F₁ := F.ka k₁
  have ka₁ : KA h₀ h₁ := hB.trans k₁
  have hul' : us.length = (waysL ns).length := by rw [hui.length]; unfold waysL; rw [List.length_map]
  refine wpAny_pyIter_list (s := Sh s h₁ tk₁) hus ?_
  have hlt : l < h₁.objs.size := let ⟨_, ho, _⟩ := hus; Heap.lt_size ho
  have W := Walks.list (prog := prog) (w := w) hh h₁.objs.size l (Nat.ne_of_lt hlt) us.toArray
  have hC : (h₁.push { cls := .type "list_iterator", data := .fields #[.ref l, .int 0 0] }).objs.size = h₁.objs.size + 1 := Heap.size_push ..
  dsimp only
  have hLlt : env.locals < h₁.objs.size := F₁.ns.lt
  refine ⟨_, _, _, _, _, _, fun i ys h => ys.length = i ∧ ∀ (j : Nat) y x, ys[j]? = some y → (waysL ns)[j]? = some x → TupX (fun b => b = h₁.objs.size ∨ b = h₁.objs.size + 1 ∨ b = h₁.objs.size + 1 + 1 ∨ b = env.locals) h y x, rfl, W, ?_, ⟨⟨_, Heap.get?_push_size _ rfl, rfl, rfl⟩, hus.at fun o e => Heap.get?_push_of_some _ e⟩, ?_, ?_, ?_, ?_, ?_⟩
  · rw [List.size_toArray, show sizeLine = 2 ^ 24 from rfl]; omega
  · intro b hb
    dsimp only
    rw [hC]
    rcases List.mem_cons.mp hb with rfl | hb
    · exact Nat.lt_succ_self _
    · rw [List.mem_singleton.mp hb]; exact Nat.lt_succ_of_lt hlt
  · intro h' k; exact ⟨rfl, fun j y x hy => by simp at hy⟩
  · rintro i ys h h' ⟨e, t⟩ k
    refine ⟨e, fun j y x hy hx => ?_⟩
    obtain ⟨T, tt, rfl, hT, nb⟩ := t j y x hy hx
    refine ⟨T, tt, rfl, k T _ (fun q => nb ?_) hT, nb⟩
    dsimp only at q
    rw [hC] at q
    rcases q with q | q | q | q
    · exact .inl (List.mem_singleton.mp q)
    · exact .inr (.inl q)
    · exact .inr (.inr (.inl q))
    · exact .inr (.inr (.inr q))
  · intro i v ys h tk m' E' hi hP hys hSt hns hpl hko
    dsimp only at hns hpl hko ⊢
    rw [hC] at hns hpl ⊢
    have hvu : us[i]? = some v := by simpa using hP
    obtain ⟨x, t, hx, rfl⟩ := hui.get' hvu
    have ka : KA h₁ h := fun b o e => hko b o (fun q => Nat.lt_irrefl _ (List.mem_singleton.mp q ▸ Heap.lt_size e)) (Heap.get?_push_of_some _ e)
    have hC1 : h₁.get? (h₁.objs.size + 1 + 1) = none := Heap.get?_none_of_le (Nat.le_succ_of_le (Nat.le_succ _))
    have hCne : ∀ b o, h₁.get? b = some o → b ≠ h₁.objs.size + 1 + 1 := fun b o e => Ne.symm (ne_of_none_some hC1 e)
    refine go_name (wpAny_assign_Name (st (env := compEnvC _ [] (h₁.objs.size + 1 + 1) env) (s := Sh s h tk) rfl (lookup_relabel_local rfl) hns fun h₂ hn₂ k₂ => ?_))
    refine wpAny_tests_nil ?_
    rw [if_pos rfl]
    have ka₂ : KA h₁ h₂ := fun b o e => k₂ b o (hCne b o e) (ka b o e)
    have G₂ : Gd h₂ mg mb := G.keeps (ka₁.trans ka₂)
    refine call_fn (nm_global (s := Sh s h₂ _) rfl (kind_comp D.sc rfl) (D.gl ▸ G₂.g : h₂.Ns env.globals mg) hgw ⟨rfl, nm (s := Sh s h₂ _) rfl (lookup_relabel_local rfl) hn₂ (v := .int x t) (by rw [up, if_pos rfl]) ⟨hfw.keeps (ka₁.trans ka₂), ?_⟩⟩)
    refine way_call (s := Sh s h₂ _) hh hroom G₂ (hfw.keeps (ka₁.trans ka₂)) fun h₃ tk₃ T t₃ hT hTo k₃ => ?_
    refine ⟨h₃, tk₃, _, rfl, ⟨by rw [List.length_append, hys.1]; rfl, fun j y z hy hz => ?_⟩, hn₂.keeps k₃, k₂.trans k₃.ko⟩
    rcases Nat.lt_or_ge j ys.length with hj | hj
    · rw [List.getElem?_append_left hj] at hy
      obtain ⟨T', t', rfl, hT', nb⟩ := hys.2 j y z hy hz
      exact ⟨T', t', rfl, k₃ _ _ (k₂ _ _ (fun q => nb (.inr (.inr (.inl q)))) hT'), nb⟩
    · rw [List.getElem?_append_right hj] at hy
      have hj0 : j - ys.length = 0 := by
        rcases Nat.eq_zero_or_pos (j - ys.length) with h | h
        · exact h
        · rw [List.getElem?_eq_none (show [_].length ≤ j - ys.length from h)] at hy; cases hy
      rw [hj0] at hy
      cases hy
      have hji : j = i := by rw [hys.1] at hj hj0; omega
      subst hji
      have hzx : z = wayOf x := by
        unfold waysL at hz
        rw [List.getElem?_map, hx] at hz
        cases hz; rfl
      subst hzx
      refine ⟨T, t₃, rfl, hTo, fun q => ?_⟩
      have hal : ∀ {b o}, h₂.get? b = some o → T ≠ b := fun e => ne_of_none_some hT e
      rcases q with q | q | q | q
      · obtain ⟨o, ho, _⟩ := hSt.1
        exact hal (k₂ _ _ (Nat.ne_of_lt (Nat.lt_succ_of_lt (Nat.lt_succ_self _))) ho) q
      · obtain ⟨n, ho⟩ := hpl
        exact hal (k₂ _ _ (Nat.ne_of_lt (Nat.lt_succ_self _)) ho) q
      · obtain ⟨o, _, _, ho, _⟩ := hn₂
        exact hal ho q
      · obtain ⟨o, _, _, ho, _⟩ := F₁.ns
        exact hal (ka₂ _ _ ho) q
  · refine ⟨m, fun q => Nat.lt_irrefl _ (List.mem_singleton.mp q ▸ hLlt), F₁.ns.push _, ?_⟩
    rintro h' tk ys ⟨hyl, hyt⟩ hpl hns hko
    rw [hC] at hpl hns
    rw [List.size_toArray] at hyl
    have hko' : KO (· = env.locals) h₁ h' := fun b o nb e => hko b o (fun q => by
      rcases q with q | q
      · exact Nat.lt_irrefl _ (List.mem_singleton.mp q ▸ Heap.lt_size e)
      · exact nb q) (Heap.get?_push_of_some _ e)
    refine nx h' tk (h₁.objs.size + 1) ?_ ⟨ys, hpl.isList, by rw [hyl, hul'], fun i v x hv hx => ?_⟩ (frC_of D.N F₁ hns hko') (fun b o nb e => hko' b o (fun q => nb (.inl q)) (k₁ b o e))
    · cases q : s.heap.get? (h₁.objs.size + 1) with
      | none => rfl
      | some o => exact absurd (Heap.lt_size (k₁ _ _ q)) (Nat.not_lt.mpr (Nat.le_succ _))
    · obtain ⟨T, t, e, hT, _⟩ := hyt i v x hv hx
      exact ⟨T, t, e, hT⟩
end
end Mine

namespace Mine
def preL (l : List Nat) : List (List Nat) := (List.range (l.length + 1)).map (l.take ·)
def rowOf (x : Bool × List Nat) : List (List Nat) := if x.1 then (preL x.2).reverse else preL x.2
def rowsL (ws : List (Bool × List Nat)) : List (List (List Nat)) := [] :: ws.map rowOf

section
variable {prog : Program} {w : World} {A : Around} {E : Value → Shared → Prop} {s : Shared} {env : Env} {m cm mg mb : Str → Option Value}

/-- one row of beginnings -/
theorem law_row {h₀ : Heap} {x : List Nat} {tw : Tok} {Q : Flow → Shared → Prop} (hh : A.handled = none) (D : LawEnv env) (F : FrC env s.heap m cm) (G : Gd h₀ mg mb) (hB : KA h₀ s.heap)
    (hW : cm "way" = some (.str (S x) tw)) (hxl : x.length ≤ 100)
    (nx : ∀ h' tk r, s.heap.get? r = none → RowL h' r (preL x) → FrC env h' (up m "row" (.ref r)) cm → KO (Own env) s.heap h' → Q .next (Sh s h' tk)) :
    wpAny (model prog w) A (exec (nthS (loopBody (nthS lawBody 2)) 0) env) Q E s := by
  have Gs := G.keeps hB
  refine comp_assign (cl := [(Str.ofString "way", env.locals + 1)]) ?_ (by rw [clos_eq D.ce]; rfl) (by decide) rfl (by decide) (D.kd rfl) (by rw [D.N.kind]; rfl) (call_t1 (nm_builtin D.N.kind (D.kd rfl) (D.gl ▸ Gs.g) Gs.range0 (D.bu ▸ Gs.b) Gs.range ⟨rfl, ?_⟩))
  · have hsc := D.sc
    obtain ⟨sc, lo, gl, ce, qu, fu, co, fr, bu⟩ := env
    dsimp only at hsc
    subst hsc
    rfl
  refine bin_const (call_b1 (nm_builtin D.N.kind (D.kd rfl) (D.gl ▸ Gs.g) Gs.len0 (D.bu ▸ Gs.b) Gs.len ⟨rfl, nmC D.N F (D.kd rfl) D.way hW (PyProof.Rows.len_str (by rw [S_length]; omega) (PyProof.Rows.add_int (rng1 fun hr r tkr t₁ u₁ v₁ hrange kr => ?_)))⟩))
  rw [S_length] at hrange
  have k₁ : KA s.heap hr := kr
  have F₁ := F.ka k₁
  refine wpAny_pyIter_range (s := Sh s hr tkr) hrange (range_small (by omega) (by omega)) ?_
  have hn1 : Builtin.Range.rangeSize 0 ((x.length : Int) + 1) 1 = ((x.length + 1 : Nat) : Int) := by rw [rangeSize_nat]; omega
  dsimp only
  rw [hn1]
  have W := Walks.range (prog := prog) (w := w) hh hr.objs.size 0 1 (x.length + 1)
  generalize hH : hr.push { cls := .type "range_iterator", data := .fields #[rawInt 0, rawInt ((x.length + 1 : Nat) : Int), rawInt 1] } = H
  have hC : H.objs.size = hr.objs.size + 1 := by rw [← hH]; exact Heap.size_push ..
  have hLlt : env.locals < hr.objs.size := F₁.ns.lt
  have hI : H.get? hr.objs.size = some { cls := .type "range_iterator", data := .fields #[rawInt 0, rawInt ((x.length + 1 : Nat) : Int), rawInt 1] } := by rw [← hH]; exact Heap.get?_push_size _ rfl
  have kH : KA hr H := by rw [← hH]; exact KA.push _ _
  refine ⟨_, _, _, _, _, _, fun i ys _ => Strs ys (((List.range i).map (x.take ·)).map S), rfl, W, ?_, ?_, ?_, ?_, ?_, ?_, ?_⟩
  · rw [show sizeLine = 2 ^ 24 from rfl]; omega
  · simpa using hI
  · intro b hb
    dsimp only
    rw [hC, List.mem_singleton.mp hb]
    exact Nat.lt_succ_self _
  · intro h' k; exact Strs.nil
  · intro i ys h h' e k; exact e
  · intro i v ys h tk m' E' hi hP hys hSt hns hpl hko
    dsimp only at hns hpl hko ⊢
    rw [hC] at hns hpl ⊢
    obtain ⟨ti, rfl⟩ := hP
    rw [show ((0 : Int) + (i : Nat) * 1) = (i : Int) by omega]
    have ka : KA hr h := fun b o e => hko b o (fun q => Nat.lt_irrefl _ (List.mem_singleton.mp q ▸ Heap.lt_size e)) (kH _ _ e)
    have hC1 : hr.get? (hr.objs.size + 1 + 1) = none := Heap.get?_none_of_le (Nat.le_succ_of_le (Nat.le_succ _))
    have hwc : h.IsCell (env.locals + 1) (some (.str (S x) tw)) := (hW ▸ F₁.cell _ _ D.way).keeps ka
    have hwne : env.locals + 1 ≠ hr.objs.size + 1 + 1 := by
      obtain ⟨o, ho, _⟩ := F₁.cell _ _ D.way
      exact Ne.symm (ne_of_none_some hC1 ho)
    refine go_name (wpAny_assign_Name (st (env := compEnvC _ [(Str.ofString "way", env.locals + 1)] (hr.objs.size + 1 + 1) env) (s := Sh s h tk) rfl (lookup_relabel_local rfl) hns fun h₂ hn₂ k₂ => ?_))
    refine wpAny_tests_nil ?_
    rw [if_pos rfl]
    have hwc₂ : h₂.IsCell (env.locals + 1) (some (.str (S x) tw)) := let ⟨o, ho, hd⟩ := hwc; ⟨o, k₂ _ _ hwne ho, hd⟩
    refine slice_to (nm_cell (s := Sh s h₂ _) (c := env.locals + 1) rfl (kind_comp D.sc rfl) rfl hwc₂ (nm (s := Sh s h₂ _) rfl (lookup_relabel_local rfl) hn₂ (v := .int (i : Int) ti) (by rw [up, if_pos rfl]) ⟨x, tw, i, ti, rfl, rfl, by omega, fun h₃ tk₃ t₃ k₃ => ?_⟩))
    refine ⟨h₃, tk₃, _, rfl, ?_, hn₂.keeps k₃, k₂.trans k₃.ko⟩
    dsimp only
    rw [List.range_succ, List.map_append, List.map_append]
    exact hys.snoc _ _
  · refine ⟨m, fun q => Nat.lt_irrefl _ (List.mem_singleton.mp q ▸ hLlt), F₁.ns.keeps kH, ?_⟩
    intro h' tk ys hys hpl hns hko
    rw [hC] at hpl hns
    have hko' : KO (· = env.locals) hr h' := fun b o nb e => hko b o (fun q => by
      rcases q with q | q
      · exact Nat.lt_irrefl _ (List.mem_singleton.mp q ▸ Heap.lt_size e)
      · exact nb q) (kH _ _ e)
    refine nx h' tk (hr.objs.size + 1) ?_ ⟨ys, hpl, hys⟩ (frC_of D.N F₁ hns hko') (fun b o nb e => hko' b o (fun q => nb (.inl q)) (k₁ b o e))
    cases q : s.heap.get? (hr.objs.size + 1) with
    | none => rfl
    | some o => exact absurd (Heap.lt_size (k₁ _ _ q)) (Nat.not_lt.mpr (Nat.le_succ _))

/-- xs[::-1] -/
theorem slice_rev {value : Expr} {p1 p2 p pos : Pos} {Q : Value → Shared → Prop}
    (h : wpAny (model prog w) A (eval value env) (fun o s₁ => ∃ l, ∃ vs : List Value, o = .ref l ∧ s₁.heap.IsList l vs.toArray ∧ vs.length ≤ sizeLine ∧
      ∀ h' tk D, s₁.heap.get? D = none → h'.PlainList D vs.reverse.toArray → KA s₁.heap h' → Q (.ref D) (Sh s₁ h' tk)) E s) :
    wpAny (model prog w) A (eval (.Subscript value (.Slice none none (some (.UnaryOp .USub (.Constant (.int 1) 0 p1) p2)) p) pos) env) Q E s := by
  refine Subscript_ (wpAny_mono h (fun o s₁ h₁ => wpAny_Slice ?_) fun _ _ e => e)
  obtain ⟨l, vs, rfl, hl, hsz, hq⟩ := h₁
  rw [evalPart_none, evalPart_some]
  refine wpAny_pure (wpAny_pure (wpAny_UnaryOp (wpAny_Constant_int (P.neg_int ?_))))
  generalize hH : s₁.heap.push { cls := .type "slice", data := .fields #[.none, .none, .int (-1) (s₁.toks + 1)] } = H
  have kH : KA s₁.heap H := by rw [← hH]; exact KA.push _ _
  have hs : H.IsSliceOf s₁.heap.objs.size .none .none (.int (-1) (s₁.toks + 1)) := by rw [← hH]; exact Heap.IsSliceOf.new ..
  have hl' : H.IsList l vs.toArray := hl.at fun o e => kH _ o e
  refine tail_any (s := Sh s₁ H _) hl'.typeIs slot_list_getitem.lookup (wpAny_getItem_list_slice (s := Sh s₁ H _) (lo := none) (hi := none) (st := some (-1)) hl' hs .none .none (.int _ _) (by decide) ?_ (by rw [List.size_toArray]; exact hsz)) rfl
  refine hq _ _ _ ?_ ⟨0, ?_⟩ (kH.trans (KA.push _ _))
  · cases q : s₁.heap.get? H.objs.size with
    | none => rfl
    | some o => exact absurd (Heap.lt_size (kH _ _ q)) (Nat.lt_irrefl _)
  · rw [krv_pick]
    exact Heap.get?_push_size _ rfl
theorem Strs.reverse {vs : List Value} {xs : List Str} (h : Strs vs xs) : Strs vs.reverse xs.reverse := by
  unfold Strs at *; rw [List.map_reverse, h, List.map_reverse]
end
end Mine

namespace Mine
section
variable {prog : Program} {w : World} {A : Around} {E : Value → Shared → Prop} {s : Shared} {env : Env} {m cm mg mb : Str → Option Value}

/-- the rows: lists of texts at as, told by c, named by the list at RA -/
structure RowsAt (h₀ h : Heap) (RA : Addr) (as : List Addr) (c : Addr → List Str) (rows : List (List (List Nat))) : Prop where
  list : h.PlainList RA (as.map Value.ref).toArray
  nodup : as.Nodup
  row : ∀ a ∈ as, RowAt h a (c a)
  new : ∀ a ∈ as, h₀.get? a = none
  off : ∀ a ∈ as, a ≠ RA
  told : as.map c = rows.map (·.map S)
theorem RowsAt.ko {h₀ h h' : Heap} {RA : Addr} {as : List Addr} {c : Addr → List Str} {rows : List (List (List Nat))} {W : Addr → Prop} (x : RowsAt h₀ h RA as c rows) (k : KO W h h') (n1 : ¬ W RA) (n2 : ∀ a ∈ as, ¬ W a) : RowsAt h₀ h' RA as c rows :=
  ⟨x.list.at fun o e => k _ o n1 e, x.nodup, fun a ha => (x.row a ha).ko k (n2 a ha), x.new, x.off, x.told⟩
theorem RowsAt.length {h₀ h : Heap} {RA : Addr} {as : List Addr} {c : Addr → List Str} {rows : List (List (List Nat))} (x : RowsAt h₀ h RA as c rows) : as.length = rows.length := by
  simpa using congrArg List.length x.told

/-- one row more -/
theorem law_append {h₀ : Heap} {RA rA : Addr} {as : List Addr} {c : Addr → List Str} {rows : List (List (List Nat))} {x : Bool × List Nat} {Q : Flow → Shared → Prop} (D : LawEnv env) (F : FrC env s.heap m cm) (hB : KA h₀ s.heap)
    (hRA : m "rows" = some (.ref RA)) (hrA : m "row" = some (.ref rA)) (hD : m "down" = some (.bool x.1)) (hr : RowL s.heap rA (preL x.2)) (hrow : RowsAt h₀ s.heap RA as c rows) (hra : rA ∉ as) (hraR : rA ≠ RA) (hra0 : h₀.get? rA = none) (hxl : x.2.length ≤ 100) (hal : as.length ≤ 1000)
    (nx : ∀ h' tk a c', h'.get? RA ≠ none → (a = rA ∨ s.heap.get? a = none) → RowsAt h₀ h' RA (as ++ [a]) c' (rows ++ [rowOf x]) → FrC env h' m cm → KO (· = RA) s.heap h' → Q .next (Sh s h' tk)) :
    wpAny (model prog w) A (exec (nthS (loopBody (nthS lawBody 2)) 1) env) Q E s := by
  have hRO : ¬ Own env RA := F.ne_list hrow.list.isList
  -- what is left once the new row stands at a
  have fin : ∀ {E'} h₁ tk₁ a, KA s.heap h₁ → (a = rA ∨ s.heap.get? a = none) → RowL h₁ a (rowOf x) → a ∉ as → a ≠ RA → h₀.get? a = none →
      wpAny (model prog w) A (call (.builtin "list.append") [.ref RA, .ref a]) (fun v s' => match v with | .ref _ => False | _ => Q .next s') E' (Sh s h₁ tk₁) := by
    intro E' h₁ tk₁ a k₁ hao har hna hnR hn0
    refine wpAny_list_append_plain (s := Sh s h₁ tk₁) (hrow.list.at fun o e => k₁ _ o e) (fun h₂ hp₂ hs₂ => ?_) (by rw [List.size_toArray, List.length_map, show sizeLine = 2 ^ 24 from rfl]; omega)
    have k02 : KO (· = RA) s.heap h₂ := k₁.ko.trans (ko_same hs₂)
    refine nx h₂ _ a (fun b => if b = a then (rowOf x).map S else c b) ?_ hao ⟨?_, ?_, ?_, ?_, ?_, ?_⟩ ((F.ka k₁).ko (ko_same hs₂) fun b hb q => hRO (q ▸ hb)) k02
    · obtain ⟨n, e⟩ := hp₂
      rw [e]; simp
    · rw [List.map_append]; simpa using hp₂
    · rw [List.nodup_append]
      refine ⟨hrow.nodup, by simp, fun b hb b' hb' e => ?_⟩
      rw [List.mem_singleton.mp hb'] at e
      exact hna (e ▸ hb)
    · intro b hb
      by_cases hba : b = a
      · subst hba
        rw [if_pos rfl]
        exact RowAt.ko har (ko_same hs₂) hnR
      · rw [if_neg hba]
        have hb' : b ∈ as := (List.mem_append.mp hb).resolve_right fun q => hba (List.mem_singleton.mp q)
        exact (hrow.row b hb').ko k02 (hrow.off b hb')
    · intro b hb
      rcases List.mem_append.mp hb with hb | hb
      · exact hrow.new b hb
      · rw [List.mem_singleton.mp hb]; exact hn0
    · intro b hb
      rcases List.mem_append.mp hb with hb | hb
      · exact hrow.off b hb
      · rw [List.mem_singleton.mp hb]; exact hnR
    · rw [List.map_append, List.map_append, ← hrow.told]
      congr 1
      · refine List.map_congr_left fun b hb => ?_
        rw [if_neg (fun (e : b = a) => hna (e ▸ hb))]
      · simp
  refine wpAny_Expr (wpAny_Call_append rfl rfl rfl rfl (nmL D.N F (D.kd rfl) hRA ⟨RA, (as.map Value.ref).toArray, rfl, ?_, ?_⟩)) (interactive_false D.N.kind) rfl
  · obtain ⟨n, e⟩ := hrow.list
    exact ⟨_, n, e, rfl, rfl, rfl⟩
  refine wpAny_IfExp (wpAny_isTrue_value (nmL D.N F (D.kd rfl) hD (wpAny_truthy_bool ?_)) rfl)
  obtain ⟨vs, hp, hs⟩ := hr
  have hvl : vs.length ≤ 1000 := by rw [hs.length, List.length_map]; unfold preL; simp; omega
  by_cases hx1 : x.1 = true
  · rw [if_pos hx1]
    refine slice_rev (nmL D.N F (D.kd rfl) hrA ⟨rA, vs, rfl, hp.isList, by rw [show sizeLine = 2 ^ 24 from rfl]; omega, fun h₁ tk₁ D₁ hD₁ hp₁ k₁ => ?_⟩)
    refine fin h₁ tk₁ D₁ k₁ (.inr hD₁) ⟨vs.reverse, hp₁, ?_⟩ (fun q => ?_) ?_ ?_
    · unfold rowOf; rw [hx1, if_pos rfl, List.map_reverse]; exact hs.reverse
    · obtain ⟨_, ⟨_, p⟩, _⟩ := hrow.row D₁ q
      rw [hD₁] at p; cases p
    · rintro rfl
      obtain ⟨n, e⟩ := hrow.list
      rw [hD₁] at e; cases e
    · cases q : h₀.get? D₁ with
      | none => rfl
      | some o => have := hB _ _ q; rw [hD₁] at this; cases this
  · rw [if_neg hx1]
    have hx1' : x.1 = false := by simpa using hx1
    refine nmL D.N F (D.kd rfl) hrA (fin s.heap s.toks rA (KA.refl _) (.inl rfl) ⟨vs, hp, ?_⟩ hra hraR hra0)
    unfold rowOf; rw [hx1', if_neg Bool.false_ne_true]; exact hs

theorem law_rows {h₀ : Heap} {RA W a₀ : Addr} {ws : List (Bool × List Nat)} {Q : Flow → Shared → Prop} (hh : A.handled = none) (D : LawEnv env) (F : FrC env s.heap m cm) (G : Gd h₀ mg mb) (hB : KA h₀ s.heap) (hO : ∀ b, Own env b → h₀.get? b = none)
    (hW : m "ways" = some (.ref W)) (hw : WaysAt s.heap W ws) (hRA : m "rows" = some (.ref RA)) (hRA0 : h₀.get? RA = none) (hrow : RowsAt h₀ s.heap RA [a₀] (fun _ => []) [[]]) (hWR : W ≠ RA) (hlen : ws.length ≤ 100) (hsz : ∀ x ∈ ws, x.2.length ≤ 100)
    (nx : ∀ h' tk as c m' cm', RowsAt h₀ h' RA as c (rowsL ws) → FrC env h' m' cm' → (∀ y : Str, y ≠ "down" → y ≠ "row" → m' y = m y) → KO (fun b => Own env b ∨ b = RA) s.heap h' → Q .next (Sh s h' tk)) :
    wpAny (model prog w) A (exec (nthS lawBody 2) env) Q E s := by
  obtain ⟨vs, hl, hvl, hT⟩ := hw
  have hRO : ¬ Own env RA := F.ne_list hrow.list.isList
  have hWO : ¬ Own env W := F.ne_list hl
  have hRlt : RA < s.heap.objs.size := let ⟨_, e⟩ := hrow.list; Heap.lt_size e
  refine for_list hh (nmL D.N F (D.kd rfl) hW ?_)
  refine ⟨W, vs, fun i h => KO (fun b => Own env b ∨ b = RA) s.heap h ∧ (∃ as c, RowsAt h₀ h RA as c ([] :: (ws.take i).map rowOf) ∧ ∀ a ∈ as, a ≠ s.heap.objs.size) ∧ ∃ m' cm', FrC env h m' cm' ∧ (∀ y : Str, y ≠ "down" → y ≠ "row" → m' y = m y), rfl, hl, ?_, ?_, ?_, ?_⟩
  · intro h' k
    refine ⟨k.ko, ⟨[a₀], fun _ => [], hrow.ko (W := fun _ => False) k.ko (fun q => q) (fun _ _ q => q), fun a ha => Nat.ne_of_lt (hrow.row a ha).lt⟩, m, cm, F.ka k, fun _ _ _ => rfl⟩
  · rintro i h h' ⟨a, ⟨as, c, b, hI⟩, m', cm', F', r⟩ k
    exact ⟨fun p o np e' => k p o (Nat.ne_of_lt (Heap.lt_size e')) (a p o np e'), ⟨as, c, b.ko k (Nat.ne_of_lt hRlt) hI, hI⟩, m', cm', F'.ko k fun b hb => Nat.ne_of_lt (F.lt b hb), r⟩
  · rintro i v h tk hv ⟨k, ⟨as, c, hrow', hI⟩, m', cm', F', hm'⟩ hit hl'
    have hi : i < ws.length := by rw [← hvl]; exact (List.getElem?_eq_some_iff.mp hv).1
    have hx : ws[i]? = some ws[i] := List.getElem?_eq_getElem hi
    generalize ws[i] = x at hx
    have hxl := hsz x (List.mem_of_getElem? hx)
    have ht : TupOf h v x := (hT i v x hv hx).at fun T o e p => by
      obtain ⟨T', t', e', p'⟩ := hT i v x hv hx
      rw [e] at e'; cases e'
      refine k T o (fun q => q.elim (F.ne_tup p') fun q => ?_) p
      obtain ⟨n, pl⟩ := hrow.list
      rw [← q, p'] at pl
      have := congrArg (fun o => o.map (·.cls)) pl
      simp at this
    have hIO : ¬ Own env s.heap.objs.size := fun q => Nat.lt_irrefl _ (F.lt _ q)
    have nW : ∀ b, (Own env b ∨ b = RA) → h₀.get? b = none := fun b q => q.elim (hO b) fun q => q ▸ hRA0
    refine go_tup (s := Sh s h tk) hit ht (asg_pair (s := Sh s h tk) hh ht fun h₁ tk₁ t k₁ => ?_)
    refine wpAny_assign_Name (stL (s := Sh s h₁ tk₁) D.N (F'.ka k₁) (D.kd rfl) fun h₂ tk₂ F₂ k₂ => ?_)
    refine wpAny_assign_Name (stC (s := Sh s h₂ tk₂) D.N F₂ (D.kd rfl) D.way fun h₃ tk₃ F₃ k₃ => ?_)
    have k23 : KO (Own env) h h₃ := (k₁.ko.trans k₂).trans k₃
    have k03 : KO (fun b => Own env b ∨ b = RA) s.heap h₃ := k.trans (k23.mono fun _ => .inl)
    refine wpAny_execs_cons (law_row (s := Sh s h₃ tk₃) (x := x.2) (tw := t) hh D F₃ G (ka_base hB k03 nW) (by rw [up, if_pos rfl]) hxl fun h₄ tk₄ r hr0 hrr F₄ k₄ => ?_)
    have k04 : KO (fun b => Own env b ∨ b = RA) s.heap h₄ := k03.trans (k₄.mono fun _ => .inl)
    have k34 : KO (Own env) h h₄ := k23.trans k₄
    have rowO : ∀ a ∈ as, ¬ Own env a := fun a ha => F'.ne_row (hrow'.row a ha)
    have hrow₄ := hrow'.ko k34 hRO rowO
    have kb₃ := ka_base hB k03 nW
    have kb₄ := ka_base hB k04 nW
    have alive₃ : ∀ {b o}, ¬ Own env b → h.get? b = some o → h₃.get? b = some o := fun n e => k23 _ _ n e
    have hras : r ∉ as := fun q => by
      obtain ⟨_, ⟨_, p⟩, _⟩ := hrow'.row r q
      exact absurd rfl (ne_of_none_some hr0 (alive₃ (rowO r q) p))
    have hrR : r ≠ RA := by
      obtain ⟨n, p⟩ := hrow'.list
      exact ne_of_none_some hr0 (alive₃ hRO p)
    have hrI : r ≠ s.heap.objs.size := by
      obtain ⟨o, p, _⟩ := hit
      exact ne_of_none_some hr0 (alive₃ hIO p)
    have hr00 : h₀.get? r = none := by
      cases q : h₀.get? r with
      | none => rfl
      | some o => have := kb₃ _ _ q; rw [hr0] at this; cases this
    have hal : as.length ≤ 1000 := by rw [hrow'.length]; simp; omega
    have hm₄ : ∀ y : Str, y ≠ "down" → y ≠ "row" → up (up m' "down" (.bool x.1)) "row" (.ref r) y = m y := fun y y1 y2 => by rw [up, if_neg y2, up, if_neg y1, hm' y y1 y2]
    refine wpAny_execs_cons (law_append (s := Sh s h₄ tk₄) (x := x) D F₄ kb₄ (by rw [hm₄ _ (by decide) (by decide)]; exact hRA) (by rw [up, if_pos rfl]) (by rw [up, if_neg (by decide), up, if_pos rfl]) hrr hrow₄ hras hrR hr00 hxl hal fun h₅ tk₅ a c' hRA5 ha hrow₅ F₅ k₅ => ?_)
    refine wpAny_execs_nil ⟨h₅, tk₅, rfl, ⟨k04.trans (k₅.mono fun _ => .inr), ⟨as ++ [a], c', ?_, ?_⟩, _, _, F₅, hm₄⟩, ?_, ?_⟩
    · have e : ([] : List (List Nat)) :: (ws.take (i + 1)).map rowOf = ([] :: (ws.take i).map rowOf) ++ [rowOf x] := by
        rw [List.take_add_one, hx]; simp
      rw [e]; exact hrow₅
    · intro b hb
      rcases List.mem_append.mp hb with hb | hb
      · exact hI b hb
      · rw [List.mem_singleton.mp hb]
        rcases ha with rfl | ha
        · exact hrI
        · obtain ⟨o, p, _⟩ := hit
          exact ne_of_none_some ha (k₄ _ _ hIO (alive₃ hIO p))
    · exact fun o e => k₅ _ o (Nat.ne_of_gt hRlt) (k34 _ o hIO e)
    · exact fun o e => k₅ _ o hWR (k34 _ o hWO e)
  · rintro h tk ⟨k, ⟨as, c, hrow', hI⟩, m', cm', F', hm'⟩
    rw [hvl, List.take_length] at hrow'
    exact wpAny_execs_nil (nx h tk as c m' cm' hrow' F' hm' k)
end
end Mine

namespace Mine
def handlersOf : Stmt → List ExceptHandler
  | .Try _ hs _ _ _ => hs
  | _ => []
/-- the comprehension in the last line's third operand -/
def nilsExpr : Expr := match nthS lawBody 5 with
  | .Return (some (.BoolOp _ [_, _, .Compare _ _ [e] _] _)) _ => e
  | _ => .Constant .none 0 default
section
variable {prog : Program} {w : World} {A : Around} {E : Value → Shared → Prop} {s : Shared} {env : Env} {m cm mg mb : Str → Option Value}

/-- the handler -/
theorem law_catch {h₀ : Heap} {e t : Addr} {tok : Tok} {Q : Flow → Shared → Prop} (D : LawEnv env) (G : Gd h₀ mg mb) (hfr : A.frames = some [env]) (hu : A.units + 2 < cLine) (hn : s.heap.Ns env.locals m) (hdue : m "due" = some .none)
    (hfl : Heap.FlyingW h₀ [env] e (.type "RuntimeError") (.ref t) s.heap) (htup : s.heap.TupAt t [.str msg tok])
    (nx : ∀ h' tk m', KA h₀ h' → h'.Ns env.locals m' → Q (.ret (.bool true)) (Sh s h' tk)) :
    wpAny (model prog w) A (noteFrame (.ref e) env) (fun _ s₂ => wpAny (model prog w) A (setFlight (.ref e) none) (fun _ s₃ => wpAny (model prog w) A (handleBy (.ref e) env (handlersOf (nthS lawBody 4))) Q E s₃) E s₂) E s := by
  refine wpAny_looks_onW hfr D.fr hfl fun h₁ hheld hsm₁ => ?_
  refine wpAny_landsW (s := Sh s h₁ s.toks) hheld fun h₂ hfl₂ hsm₂ => ?_
  have hn₂ : h₂.Ns env.locals m := hsm₂.ns (hsm₁.ns hn)
  have G₂ : Gd h₂ mg mb := G.keeps hfl₂.1
  have htup₂ := (htup.of_slots hsm₁).of_slots hsm₂
  obtain ⟨ob, hob, hobc⟩ := hfl₂.there
  refine wpAny_handleBy_builtin_as (X := "RuntimeError") (T := "RuntimeError") (b := true) F.isExc_RuntimeError F.notTuple_RuntimeError (by rw [isSubtype_type]; kernel_rfl) (nm_builtin (s := Sh s h₂ s.toks) D.N.kind (D.kd rfl) (D.gl ▸ G₂.g) G₂.re0 (D.bu ▸ G₂.b) G₂.re ⟨rfl, ⟨ob, hob, hobc⟩, ?_⟩)
  rw [if_pos rfl]
  refine lands_againW (s := Sh s h₂ s.toks) hfl₂ fun h₃ hfl₃ hsm₃ => ?_
  have hn₃ : h₃.Ns env.locals m := hsm₃.ns hn₂
  have htup₃ := htup₂.of_slots hsm₃
  obtain ⟨oe, ws, hoe, hoec, hoed, hoe0⟩ := hfl₃.first
  have hLb : h₀.get? env.locals = none := by
    obtain ⟨_, ⟨L', _, hf', hn', _⟩, _⟩ := hfl₃.2.2.1
    obtain rfl : env.locals = L' := Option.some.inj (D.fr.symm.trans hf')
    exact hn'
  have heL : e ≠ env.locals := by
    rintro rfl
    obtain ⟨o, es, ep, ho, hd, _⟩ := hn₃
    rw [ho] at hoe; cases hoe; rw [hd] at hoed; cases hoed
  have htL : t ≠ env.locals := by
    rintro rfl
    obtain ⟨o, es, ep, ho, hd, _⟩ := hn₃
    obtain ⟨o', n', ho', _, hd'⟩ := htup₃
    rw [ho] at ho'; cases ho'; rw [hd] at hd'; cases hd'
  refine st (s := Sh s h₃ s.toks) D.N.kind (D.kd rfl) hn₃ fun h₄ hn₄ k₄ => ?_
  have ka₄ : KA h₀ h₄ := ka_base hfl₃.1 k₄ fun b hb => by rw [hb]; exact hLb
  have G₄ : Gd h₄ mg mb := G.keeps ka₄
  have hex₄ : h₄.ExcAt e "RuntimeError" (.ref t) := ⟨oe, ws, k₄ _ _ heL hoe, hoec, hoed, hoe0⟩
  have htup₄ : h₄.TupAt t [.str msg tok] := let ⟨o', n', ho', hc', hd'⟩ := htup₃; ⟨o', n', k₄ _ _ htL ho', hc', hd'⟩
  refine wpAny_execs_cons (wpAny_Return_some (wpAny_And2 (wpAny_Compare1 (nm (s := Sh s h₄ _) D.N.kind (D.kd rfl) hn₄ (v := .none) (by rw [up, if_neg (by decide)]; exact hdue) (wpAny_Constant_none (is_none (wpAny_truthy_bool ?_)))))))
  rw [if_pos (by rfl)]
  refine wpAny_Compare1 (call_t1 (nm_builtin (s := Sh s h₄ _) D.N.kind (D.kd rfl) (D.gl ▸ G₄.g) G₄.str0 (D.bu ▸ G₄.b) G₄.str ⟨rfl, nm (s := Sh s h₄ _) D.N.kind (D.kd rfl) hn₄ (v := .ref e) (by rw [up, if_pos rfl]) (P.str_of_exc_one F.excStr_RuntimeError (show (A.mark (some (.ref e))).units + 2 < cLine from hu) hex₄ htup₄ (wpAny_Constant_str (PyProof.Rows.eq_str ?_)))⟩))
  have hmsg : (msg == Str.ofString "Inconsistent hierarchy") = true := by
    unfold msg; simp
  rw [hmsg]
  refine wpAny_nameGoes (s := Sh s h₄ _) (D.kd rfl) hn₄ (by rw [D.N.kind]; rfl) fun h₅ m₅ hn₅ hs₅ => ?_
  exact nx h₅ _ m₅ (ka_base ka₄ (ko_same hs₅) fun b hb => by rw [hb]; exact hLb) hn₅

/-- as many empty lists as rows -/
theorem law_nils {RA : Addr} {as : List Addr} {Q : Value → Shared → Prop} (hh : A.handled = none) (D : LawEnv env) (F : FrC env s.heap m cm) (hRA : m "rows" = some (.ref RA)) (hl : s.heap.IsList RA (as.map Value.ref).toArray) (hlen : as.length ≤ 1000)
    (nx : ∀ h' tk B (bs : List Value), h'.IsList B bs.toArray → bs.length = as.length → (∀ (j : Nat) y, bs[j]? = some y → ∃ b, y = .ref b ∧ s.heap.get? b = none ∧ RowAt h' b []) → KA s.heap h' → Q (.ref B) (Sh s h' tk)) :
    wpAny (model prog w) A (eval nilsExpr env) Q E s := by
  refine comp_eval (cl := []) (closureFor_none (by decide)) (by decide) rfl (by decide) (nmL D.N F (D.kd rfl) hRA ?_)
  refine wpAny_pyIter_list hl ?_
  have hlt : RA < s.heap.objs.size := let ⟨_, ho, _⟩ := hl; Heap.lt_size ho
  have W := Walks.list (prog := prog) (w := w) hh s.heap.objs.size RA (Nat.ne_of_lt hlt) (as.map Value.ref).toArray
  have hC : (s.heap.push { cls := .type "list_iterator", data := .fields #[.ref RA, .int 0 0] }).objs.size = s.heap.objs.size + 1 := Heap.size_push ..
  have hLlt : env.locals < s.heap.objs.size := F.ns.lt
  refine ⟨_, _, _, _, _, _, fun i ys h => ys.length = i ∧ ∀ (j : Nat) y, ys[j]? = some y → ∃ b, y = .ref b ∧ s.heap.get? b = none ∧ RowAt h b [] ∧ b ≠ s.heap.objs.size ∧ b ≠ s.heap.objs.size + 1 ∧ b ≠ s.heap.objs.size + 1 + 1 ∧ b ≠ env.locals, rfl, W, ?_, ⟨⟨_, Heap.get?_push_size _ rfl, rfl, rfl⟩, hl.at fun o e => Heap.get?_push_of_some _ e⟩, ?_, ?_, ?_, ?_, ?_⟩
  · rw [List.size_toArray, List.length_map, show sizeLine = 2 ^ 24 from rfl]; omega
  · intro b hb
    dsimp only
    rw [hC]
    rcases List.mem_cons.mp hb with rfl | hb
    · exact Nat.lt_succ_self _
    · rw [List.mem_singleton.mp hb]; exact Nat.lt_succ_of_lt hlt
  · intro h' k; exact ⟨rfl, fun j y hy => by simp at hy⟩
  · rintro i ys h h' ⟨e, t⟩ k
    refine ⟨e, fun j y hy => ?_⟩
    obtain ⟨b, rfl, h1, h2, n1, n2, n3, n4⟩ := t j y hy
    refine ⟨b, rfl, h1, h2.ko k fun q => ?_, n1, n2, n3, n4⟩
    dsimp only at q
    rw [hC] at q
    rcases q with q | q | q | q
    · exact n1 (List.mem_singleton.mp q)
    · exact n2 q
    · exact n3 q
    · exact n4 q
  · intro i v ys h tk m' E' hi hP hys hSt hns hpl hko
    dsimp only at hns hpl hko ⊢
    rw [hC] at hns hpl ⊢
    have ka : KA s.heap h := fun b o e => hko b o (fun q => Nat.lt_irrefl _ (List.mem_singleton.mp q ▸ Heap.lt_size e)) (Heap.get?_push_of_some _ e)
    refine go_name (wpAny_assign_Name (st (env := compEnvC _ [] (s.heap.objs.size + 1 + 1) env) (s := Sh s h tk) rfl (lookup_relabel_local rfl) hns fun h₂ hn₂ k₂ => ?_))
    refine wpAny_tests_nil ?_
    rw [if_pos rfl]
    have hC1 : s.heap.get? (s.heap.objs.size + 1 + 1) = none := Heap.get?_none_of_le (Nat.le_succ_of_le (Nat.le_succ _))
    have ka₂ : KA s.heap h₂ := fun b o e => k₂ b o (Ne.symm (ne_of_none_some hC1 e)) (ka b o e)
    refine nil_list (s := Sh s h₂ _) fun h₃ tk₃ b hb hbr k₃ => ?_
    refine ⟨h₃, tk₃, _, rfl, ⟨by rw [List.length_append, hys.1]; rfl, fun j y hy => ?_⟩, hn₂.keeps k₃, k₂.trans k₃.ko⟩
    rcases Nat.lt_or_ge j ys.length with hj | hj
    · rw [List.getElem?_append_left hj] at hy
      obtain ⟨b', rfl, h1, h2, n1, n2, n3, n4⟩ := hys.2 j y hy
      exact ⟨b', rfl, h1, (h2.ko k₂ n3).at fun o e => k₃ _ o e, n1, n2, n3, n4⟩
    · rw [List.getElem?_append_right hj] at hy
      have hj0 : j - ys.length = 0 := by
        rcases Nat.eq_zero_or_pos (j - ys.length) with h | h
        · exact h
        · rw [List.getElem?_eq_none (show [_].length ≤ j - ys.length from h)] at hy; cases hy
      rw [hj0] at hy
      cases hy
      have hal : ∀ {b' o}, h₂.get? b' = some o → b ≠ b' := fun e => ne_of_none_some hb e
      refine ⟨b, rfl, ?_, hbr, ?_, ?_, ?_, ?_⟩
      · cases q : s.heap.get? b with
        | none => rfl
        | some o => exact absurd rfl (hal (ka₂ _ _ q))
      · obtain ⟨o, ho, _⟩ := hSt.1
        exact hal (k₂ _ _ (Nat.ne_of_lt (Nat.lt_succ_of_lt (Nat.lt_succ_self _))) ho)
      · obtain ⟨n, ho⟩ := hpl
        exact hal (k₂ _ _ (Nat.ne_of_lt (Nat.lt_succ_self _)) ho)
      · obtain ⟨o, _, _, ho, _⟩ := hn₂
        exact hal ho
      · obtain ⟨o, _, _, ho, _⟩ := F.ns
        exact hal (ka₂ _ _ ho)
  · rintro h' tk ys ⟨hyl, hyt⟩ hpl hko
    rw [hC] at hpl
    rw [List.size_toArray, List.length_map] at hyl
    have := nx h' tk (s.heap.objs.size + 1) ys hpl.isList hyl (fun j y hy => let ⟨b, h1, h2, h3, _⟩ := hyt j y hy; ⟨b, h1, h2, h3⟩) (fun b o e => hko b o (fun q => Nat.lt_irrefl _ (List.mem_singleton.mp q ▸ Heap.lt_size e)) (Heap.get?_push_of_some _ e))
    dsimp only
    rw [hC]
    exact this

/-- x and y and z -/
theorem and3 {x y z : Expr} {pos : Pos} {Q : Value → Shared → Prop}
    (h : wpAny (model prog w) A (eval x env) (fun v s₁ => v = .bool true ∧ wpAny (model prog w) A (eval y env) (fun v s₂ => v = .bool true ∧ wpAny (model prog w) A (eval z env) Q E s₂) E s₁) E s) :
    wpAny (model prog w) A (eval (.BoolOp .And [x, y, z] pos) env) Q E s := by
  show wpAny _ A (boolOp pos .And [eval x env, eval y env, eval z env]) Q E s
  unfold boolOp
  refine wpAny_bind (wpAny_mono h (fun v s₁ h₁ => ?_) fun _ _ e => e)
  obtain ⟨rfl, h₁⟩ := h₁
  refine wpAny_bind (wpAny_standAt (wpAny_bind (wpAny_holding (wpAny_truthy_bool ?_))))
  show wpAny _ A (boolOp pos .And [eval y env, eval z env]) Q E s₁
  unfold boolOp
  refine wpAny_bind (wpAny_mono h₁ (fun v s₂ h₂ => ?_) fun _ _ e => e)
  obtain ⟨rfl, h₂⟩ := h₂
  refine wpAny_bind (wpAny_standAt (wpAny_bind (wpAny_holding (wpAny_truthy_bool ?_))))
  exact h₂

/-- the last line -/
theorem law_return {RA Tl Du : Addr} {as : List Addr} {r : List Str} {Q : Flow → Shared → Prop} (hh : A.handled = none) (hu : A.units + 2 < cLine) (D : LawEnv env) (F : FrC env s.heap m cm) (hRA : m "rows" = some (.ref RA)) (hl : s.heap.IsList RA (as.map Value.ref).toArray) (hlen : as.length ≤ 1000)
    (hrow : ∀ a ∈ as, RowAt s.heap a []) (hT : m "told" = some (.ref Tl)) (hTr : RowAt s.heap Tl r) (hDu : m "due" = some (.ref Du)) (hDr : RowAt s.heap Du r)
    (nx : ∀ h' tk, KA s.heap h' → Q (.ret (.bool true)) (Sh s h' tk)) :
    wpAny (model prog w) A (exec (nthS lawBody 5) env) Q E s := by
  refine wpAny_Return_some (and3 (wpAny_Compare1 (nmL D.N F (D.kd rfl) hT (wpAny_Constant_none (isNot_none ⟨rfl, ?_⟩)))))
  refine wpAny_Compare1 (nmL D.N F (D.kd rfl) hT (nmL D.N F (D.kd rfl) hDu (eq_rows hTr hDr (by omega) ⟨by simp, ?_⟩)))
  refine wpAny_Compare1 (nmL D.N F (D.kd rfl) hRA (law_nils hh D F hRA hl hlen fun h₁ tk₁ B bs hB hbl hbs k₁ => ?_))
  have hl₁ : h₁.IsList RA (as.map Value.ref).toArray := hl.at fun o e => k₁ _ o e
  have hrc := SeqAt.RcAt.lists (A := A) (s := Sh s h₁ tk₁) (e := fun _ => true) hl₁ hB (by rw [List.size_toArray, List.size_toArray, hbl, List.length_map]) (by omega) fun j h1 h2 => by
    rw [List.size_toArray] at h1 h2
    obtain ⟨b, hb, hb0, hbr⟩ := hbs j bs[j] (List.getElem?_eq_getElem h2)
    rw [List.length_map] at h1
    simp only [List.getElem_toArray, List.getElem_map]
    rw [hb]
    have ha := hrow as[j] (List.getElem_mem h1)
    refine SeqAt.EqAt.of_refs ?_ ?_
    · obtain ⟨_, ⟨_, p⟩, _⟩ := ha
      exact Ne.symm (ne_of_none_some hb0 p)
    · have := rcAt_rows (A := A.in1) (s := Sh s h₁ tk₁) (ha.at fun o e => k₁ _ o e) hbr (by rw [Around.in1_units]; omega)
      simpa using this
  have hall : ((List.range (as.map Value.ref).toArray.size).all fun _ => true) = true := by simp
  rw [hall] at hrc
  exact hrc prog w E _ (nx h₁ tk₁ k₁)
end
end Mine

namespace Mine
/-- the module's own names and defs -/
structure Fns (h : Heap) (mg : Str → Option Value) : Prop where
  way : FnAt h 26 wayBody wayScope "x"
  due : FnAt h 31 dueBody dueScope "ways"
  merge : FnAt h 19 mergeBody mergeScope "sequences"
  gway : mg "_law_way" = some (.ref 26)
  gdue : mg "_law_due" = some (.ref 31)
  gmerge : mg "_c3_merge" = some (.ref 19)

theorem wayL_len (x : Int) : (wayL x).length ≤ 4 := by
  have hm5 : x.fmod 5 < 5 := Int.fmod_lt_of_pos x (by decide)
  unfold wayL; rw [List.length_map, List.length_range]; omega
theorem waysL_len (ns : List Int) : (waysL ns).length ≤ 8 := by
  unfold waysL; simp; omega
theorem waysL_sz (ns : List Int) : ∀ x ∈ waysL ns, x.2.length ≤ 4 := by
  intro x hx
  unfold waysL at hx
  obtain ⟨n, _, rfl⟩ := List.mem_map.mp hx
  exact wayL_len n
theorem rowOf_len (x : Bool × List Nat) : (rowOf x).length = x.2.length + 1 := by
  unfold rowOf preL; split <;> simp

section
variable {prog : Program} {w : World} {A : Around} {E : Value → Shared → Prop} {s : Shared} {env : Env} {m cm mg mb : Str → Option Value}

theorem law_walk {h₀ : Heap} {R : Addr} {vs : List Value} {ns : List Int} {Q : Flow → Shared → Prop} (hh : A.handled = none) (hroom : A.depth < recursionLimit) (hu : A.units + 3 < cLine) (hfr : A.frames = some [env])
    (D : LawEnv env) (F : FrC env s.heap m cm) (G : Gd h₀ mg mb) (P : Fns h₀ mg) (hB : KA h₀ s.heap) (hO : ∀ b, Own env b → h₀.get? b = none)
    (hR : m "script" = some (.ref R)) (hl : s.heap.IsList R vs.toArray) (hv : Ints vs ns) (hlen : vs.length ≤ 100)
    (hpure : ∀ o, Merges ((rowsL (waysL ns)).map (·.map S)) o → o = (dueL (waysL ns)).map (·.map S))
    (nx : ∀ h' tk m', KA h₀ h' → h'.Ns env.locals m' → Q (.ret (.bool true)) (Sh s h' tk)) :
    wpAny (model prog w) A (execs lawBody env) Q E s := by
  have wlen := waysL_len ns
  have wsz := waysL_sz ns
  generalize hws : waysL ns = ws at hpure wlen wsz
  refine wpAny_execs_cons (law_ways hh hroom D F G hB P.way P.gway hR hl hv hlen fun h₁ tk₁ W hW0 hw₁ F₁ k₁ => ?_)
  rw [hws] at hw₁
  have ka₁ : KA h₀ h₁ := ka_base hB k₁ hO
  -- rows = [[]]
  refine wpAny_execs_cons (wpAny_Assign_Name (wpAny_List (Calls.spliced_cons (nil_list (env := env) (s := Sh s h₁ tk₁) fun h₂ tk₂ a₀ ha₀ har k₂ => Calls.spliced_nil ⟨(show (1 : Nat) ≤ sizeLine by decide), ?_⟩))))
  generalize hH : h₂.push { cls := .type "list", data := .seq [Value.ref a₀].toArray } = h₃
  have k₃ : KA h₂ h₃ := by rw [← hH]; exact KA.push _ _
  have hRA : h₃.PlainList h₂.objs.size [Value.ref a₀].toArray := by rw [← hH]; exact ⟨0, Heap.get?_push_size _ rfl⟩
  have hRA2 : h₂.get? h₂.objs.size = none := Heap.get?_none_of_le (Nat.le_refl _)
  generalize hRAe : h₂.objs.size = RA at hRA hRA2
  have none_of : ∀ {g g' : Heap} {b}, KA g g' → g'.get? b = none → g.get? b = none := fun {g g' b} k e => by
    cases q : g.get? b with
    | none => rfl
    | some o => have := k _ _ q; rw [e] at this; cases this
  have F₃ := (F₁.ka k₂).ka k₃
  refine stL (s := Sh s h₃ tk₂) D.N F₃ (D.kd rfl) fun h₄ tk₄ F₄ k₄ => ?_
  have ka₃ : KA h₀ h₃ := (ka₁.trans k₂).trans k₃
  have ka₄ : KA h₀ h₄ := ka_base ka₃ k₄ hO
  have hRA0 : h₀.get? RA = none := none_of (ka₁.trans k₂) hRA2
  have ha₀R : a₀ ≠ RA := by
    obtain ⟨_, ⟨_, p⟩, _⟩ := har
    exact Ne.symm (ne_of_none_some hRA2 p)
  have har₃ : RowAt h₃ a₀ [] := har.at fun o e => k₃ _ o e
  have hRAO : ¬ Own env RA := F₃.ne_list hRA.isList
  have rows₄ : RowsAt h₀ h₄ RA [a₀] (fun _ => []) [[]] := by
    refine ⟨hRA.at fun o e => k₄ _ o hRAO e, by simp, fun a ha => ?_, fun a ha => ?_, fun a ha => ?_, by simp⟩
    · rw [List.mem_singleton.mp ha]; exact har₃.ko k₄ (F₃.ne_row har₃)
    · rw [List.mem_singleton.mp ha]; exact none_of ka₁ ha₀
    · rw [List.mem_singleton.mp ha]; exact ha₀R
  have WO : ¬ Own env W := let ⟨_, p, _⟩ := hw₁; F₁.ne_list p
  have hw₃ := (hw₁.ka k₂).ka k₃
  have hw₄ : WaysAt h₄ W ws := by
    obtain ⟨us, p, q, r⟩ := hw₃
    refine ⟨us, IsList.ko p k₄ WO, q, fun i v x hv hx => (r i v x hv hx).at fun T o e pp => ?_⟩
    obtain ⟨T', t', e', p'⟩ := r i v x hv hx
    rw [e] at e'; cases e'
    exact k₄ T o (F₃.ne_tup p') pp
  have hWR : W ≠ RA := by
    obtain ⟨_, ⟨_, p, _⟩, _⟩ := hw₁.ka k₂
    exact Ne.symm (ne_of_none_some hRA2 p)
  refine wpAny_execs_cons (law_rows (s := Sh s h₄ tk₄) (W := W) (RA := RA) hh D F₄ G ka₄ hO (by rw [up, if_neg (by decide), up, if_pos rfl]) hw₄ (by rw [up, if_pos rfl]) hRA0 rows₄ hWR (by omega) (fun x hx => by have := wsz x hx; omega) fun h₅ tk₅ as c m₅ cm₅ rows₅ F₅ hm₅ k₅ => ?_)
  have ka₅ : KA h₀ h₅ := ka_base ka₄ k₅ fun b q => q.elim (hO b) fun q => q ▸ hRA0
  have hw₅ : WaysAt h₅ W ws := by
    obtain ⟨us, p, q, r⟩ := hw₄
    refine ⟨us, IsList.ko p k₅ fun q => q.elim WO hWR, q, fun i v x hv hx => (r i v x hv hx).at fun T o e pp => ?_⟩
    obtain ⟨T', t', e', p'⟩ := r i v x hv hx
    rw [e] at e'; cases e'
    refine k₅ T o (fun q => q.elim (F₄.ne_tup p') fun q => ?_) pp
    obtain ⟨n, pl⟩ := rows₄.list
    rw [← q, p'] at pl
    have := congrArg (fun o => o.map (·.cls)) pl
    simp at this
  have G₅ := G.keeps ka₅
  have hmW : m₅ "ways" = some (.ref W) := by rw [hm₅ _ (by decide) (by decide), up, if_neg (by decide), up, if_pos rfl]
  have hmR : m₅ "rows" = some (.ref RA) := by rw [hm₅ _ (by decide) (by decide), up, if_pos rfl]
  -- due
  refine wpAny_execs_cons (wpAny_Assign_Name (call_fn (nm_global (s := Sh s h₅ tk₅) D.N.kind (D.kd rfl) (D.gl ▸ G₅.g) P.gdue ⟨rfl, nmL (s := Sh s h₅ tk₅) D.N F₅ (D.kd rfl) hmW ⟨P.due.keeps ka₅, ?_⟩⟩)))
  refine due_call (s := Sh s h₅ tk₅) hh hroom hu G₅ (P.due.keeps ka₅) hw₅ (by omega) (fun x hx => by have := wsz x hx; omega) fun dv h₆ tk₆ k₆ hdv => ?_
  refine stL (s := Sh s h₆ tk₆) D.N (F₅.ka k₆) (D.kd rfl) fun h₇ tk₇ F₇ k₇ => ?_
  have ka₇ : KA h₀ h₇ := ka_base (ka₅.trans k₆) k₇ hO
  have G₇ := G.keeps ka₇
  have asO : ∀ a ∈ as, ¬ Own env a := fun a ha => F₅.ne_row (rows₅.row a ha)
  have rows₇ : RowsAt h₀ h₇ RA as c (rowsL ws) := (rows₅.ko (W := fun _ => False) k₆.ko (fun q => q) fun _ _ q => q).ko k₇ hRAO asO
  have hmR₇ : up m₅ "due" dv "rows" = some (.ref RA) := by rw [up, if_neg (by decide)]; exact hmR
  have hlas : as.length ≤ 100 := by rw [rows₇.length]; unfold rowsL; simp; omega
  have hcl : ∀ a ∈ as, (c a).length ≤ 100 := fun a ha => by
    have hin : c a ∈ (rowsL ws).map (·.map S) := by rw [← rows₇.told]; exact List.mem_map_of_mem ha
    obtain ⟨r, hr, e⟩ := List.mem_map.mp hin
    rw [← e, List.length_map]
    unfold rowsL at hr
    rcases List.mem_cons.mp hr with rfl | hr
    · simp
    · obtain ⟨x, hx, rfl⟩ := List.mem_map.mp hr
      rw [rowOf_len]; have := wsz x hx; omega
  have hRa : RA ∉ as := fun q => rows₇.off _ q rfl
  -- try
  refine wpAny_execs_cons (wpAny_Try_except (wpAny_execs_cons (wpAny_Assign_Name (call_fn (nm_global (s := Sh s h₇ tk₇) D.N.kind (D.kd rfl) (D.gl ▸ G₇.g) P.gmerge ⟨rfl, nmL (s := Sh s h₇ tk₇) D.N F₇ (D.kd rfl) hmR₇ ⟨P.merge.keeps ka₇, ?_⟩⟩)))))
  obtain ⟨fo, fd, ho, hd, hcd, hbody, hscope, hgl, hbu, hclo, hbind⟩ := P.merge.keeps ka₇
  refine merge_call (s := Sh s h₇ tk₇) (base := h₀) (lenv := env) (lL := env.locals) (lm := up m₅ "due" dv) (mg := mg) (mb := mb) (c := c) hh hroom ho hd G₇.lim hcd hbody hscope hgl hbu (BindsTo.of_eq (hbind _)) G₇.g G₇.b G₇.re0 G₇.re rows₇.list.isList hRa rows₇.nodup rows₇.row hlas hcl hfr D.fr D.N.kind F₇.ns ka₇ (hO _ (.inl rfl)) rows₇.new ?_ ?_
  · intro r hmr h₈ tk₈ D₈ hD₈ hr₈ hrs₈ k₈
    rw [rows₇.told] at hmr
    have hres := hpure _ hmr
    cases hdue : dueL ws with
    | none => rw [hdue] at hres; cases hres
    | some order =>
      rw [hdue] at hres hdv
      obtain ⟨Du, rfl, hDu0, hDur⟩ := hdv
      have hr : r = order.map S := by simpa using hres
      subst hr
      have F₈ : FrC env h₈ (up m₅ "due" (.ref Du)) cm₅ := F₇.ko k₈ fun b hb q => asO b q hb
      refine stL (s := Sh s h₈ tk₈) D.N F₈ (D.kd rfl) fun h₉ tk₉ F₉ k₉ => ?_
      have hDuO : ¬ Own env Du := (F₅.ka k₆).ne_row hDur
      have hDuas : Du ∉ as := fun q => by
        obtain ⟨_, ⟨_, p⟩, _⟩ := rows₅.row Du q
        rw [hDu0] at p; cases p
      have hDur₇ : RowAt h₇ Du (order.map S) := RowAt.ko hDur k₇ hDuO
      have hDur₉ : RowAt h₉ Du (order.map S) := (hDur₇.ko k₈ hDuas).ko k₉ hDuO
      have ka₈ : KA h₀ h₈ := ka_base ka₇ k₈ fun b hb => rows₇.new b hb
      have ka₉ : KA h₀ h₉ := ka_base ka₈ k₉ hO
      have hl₉ : h₉.IsList RA (as.map Value.ref).toArray := IsList.ko (IsList.ko rows₇.list.isList k₈ hRa) k₉ hRAO
      refine wpAny_execs_nil (wpAny_execs_nil (wpAny_execs_cons (law_return (s := Sh s h₉ tk₉) (r := order.map S) hh (by omega) D F₉ (by rw [up, if_neg (by decide)]; exact hmR₇) hl₉ (by omega) (fun a ha => (hrs₈ a ha).ko k₉ (asO a ha)) (by rw [up, if_pos rfl]) (RowAt.ko hr₈ k₉ (F₈.ne_row hr₈)) (by rw [up, if_neg (by decide), up, if_pos rfl]) hDur₉ fun h' tk' k' => ?_)))
      exact nx h' tk' _ (ka₉.trans k') (F₉.ns.keeps k')
  · intro hmr h₈ tk₈ e t tok hn₈ hfl htup
    rw [rows₇.told] at hmr
    have hres := hpure _ hmr
    cases hdue : dueL ws with
    | some order => rw [hdue] at hres; cases hres
    | none =>
      rw [hdue] at hdv
      subst hdv
      exact law_catch (s := Sh s h₈ tk₈) D G hfr (by omega) hn₈ (by rw [up, if_pos rfl]) hfl htup nx
end
end Mine

namespace Mine
section
variable {α β : Type} [DecidableEq α] [DecidableEq β]

theorem filter_ne_twice (R : List (List α)) : (R.filter neB).filter neB = R.filter neB := by rw [List.filter_filter]; simp

theorem Merges.congr {R R' : List (List α)} {o : Option (List α)} (e : R.filter neB = R'.filter neB) (h : Merges R o) : Merges R' o := by
  cases h with
  | done h => exact .done (e ▸ h)
  | bad h1 h2 => exact .bad (e ▸ h1) (e ▸ h2)
  | step h1 h2 h3 h4 h5 => exact .step (e ▸ h1) h2 (e ▸ h3) (e ▸ h4) (e ▸ h5)

theorem Merges.det {R : List (List α)} {o : Option (List α)} (h : Merges R o) : ∀ {o'}, Merges R o' → o = o' := by
  induction h with
  | done h =>
    intro o' h'
    cases h' with
    | done _ => rfl
    | bad h1 _ => exact absurd h h1
    | step h1 _ _ _ _ => rw [h] at h1; simp at h1
  | bad h1 h2 =>
    intro o' h'
    cases h' with
    | done h => exact absurd h h1
    | bad _ _ => rfl
    | step g1 g2 g3 _ _ =>
      obtain ⟨b, hb, hx⟩ := h2 _ (by rw [g1]; simp) _ g2
      exact absurd hx (g3 b hb)
  | @step rows pre r post x o h1 h2 h3 h4 _ ih =>
    intro o' h'
    cases h' with
    | done h => rw [h] at h1; simp at h1
    | bad g1 g2 =>
      obtain ⟨b, hb, hx⟩ := g2 _ (by rw [h1]; simp) _ h2
      exact absurd hx (h3 b hb)
    | @step _ pre' r' post' x' o'' g1 g2 g3 g4 g5 =>
      have e : pre ++ r :: post = pre' ++ r' :: post' := h1.symm.trans g1
      have key : r = r' := by
        rcases List.append_eq_append_iff.mp e with ⟨a, ha, hb⟩ | ⟨a, ha, hb⟩
        · cases a with
          | nil => simp at hb; exact hb.1
          | cons q a =>
            simp only [List.cons_append, List.cons.injEq] at hb
            obtain ⟨b, hb1, hb2⟩ := g4 r (by rw [ha, hb.1]; simp) x h2
            exact absurd hb2 (h3 b hb1)
        · cases a with
          | nil => simp at hb; exact hb.1.symm
          | cons q a =>
            simp only [List.cons_append, List.cons.injEq] at hb
            obtain ⟨b, hb1, hb2⟩ := h4 r' (by rw [ha, hb.1]; simp) x' g2
            exact absurd hb2 (g3 b hb1)
      subst key
      rw [h2] at g2
      cases g2
      rw [ih g5]

theorem neB_map (f : α → β) (l : List α) : neB (l.map f) = neB l := by cases l <;> rfl

theorem Merges.of_map {f : α → β} (hf : ∀ a b, f a = f b → a = b) {R' : List (List β)} {o' : Option (List β)} (h : Merges R' o') :
    ∀ {R : List (List α)}, R' = R.map (·.map f) → ∃ o, Merges R o ∧ o' = o.map (·.map f) := by
  have memf : ∀ {a : α} {l : List α}, f a ∈ l.map f ↔ a ∈ l := fun {a l} => by
    rw [List.mem_map]
    exact ⟨fun ⟨b, hb, e⟩ => hf _ _ e ▸ hb, fun h => ⟨a, h, rfl⟩⟩
  induction h with
  | done h =>
    rintro R rfl
    refine ⟨some [], .done ?_, rfl⟩
    rw [List.filter_map] at h
    have := List.map_eq_nil_iff.mp h
    simpa [Function.comp_def, neB_map] using this
  | bad h1 h2 =>
    rintro R rfl
    have e : (R.map (·.map f)).filter neB = (R.filter neB).map (·.map f) := by
      rw [List.filter_map]; congr 1; apply List.filter_congr; intro l _; exact neB_map f l
    rw [e] at h1 h2
    refine ⟨none, .bad (fun q => h1 (by rw [q]; rfl)) fun r hr x hx => ?_, rfl⟩
    obtain ⟨b, hb, hxb⟩ := h2 (r.map f) (List.mem_map_of_mem hr) (f x) (by rw [List.head?_map, hx]; rfl)
    obtain ⟨b', hb', rfl⟩ := List.mem_map.mp hb
    rw [← List.map_tail] at hxb
    exact ⟨b', hb', memf.mp hxb⟩
  | @step rows pre r post x o h1 h2 h3 h4 _ ih =>
    rintro R rfl
    have e : (R.map (·.map f)).filter neB = (R.filter neB).map (·.map f) := by
      rw [List.filter_map]; congr 1; apply List.filter_congr; intro l _; exact neB_map f l
    rw [e] at h1 h3 h4 ih
    obtain ⟨pre₀, rest₀, hR, hpre, hrest⟩ := List.map_eq_append_iff.mp h1
    obtain ⟨r₀, post₀, hrest2, hr, hpost⟩ := List.map_eq_cons_iff.mp hrest
    subst hr hpre
    rw [List.head?_map] at h2
    obtain ⟨x₀, hx₀, rfl⟩ := Option.map_eq_some_iff.mp h2
    have hstrip : ∀ l : List α, strip (f x₀) (l.map f) = (strip x₀ l).map f := fun l => by
      unfold strip
      rw [List.head?_map]
      cases hl : l.head? with
      | none => simp
      | some y =>
        by_cases hy : y = x₀
        · subst hy; simp [List.map_tail]
        · rw [if_neg (by simp; exact fun q => hy (hf _ _ q)), if_neg (by simpa using hy)]
    obtain ⟨o₀, ho₀, rfl⟩ := ih (R := (R.filter neB).map (strip x₀)) (by
      rw [List.map_map, List.map_map]
      apply List.map_congr_left
      intro l _
      exact hstrip l)
    refine ⟨o₀.map (x₀ :: ·), .step (pre := pre₀) (r := r₀) (post := post₀) (by rw [hR, hrest2]) hx₀ ?_ ?_ ho₀, ?_⟩
    · intro b hb hxb
      refine h3 (b.map f) (List.mem_map_of_mem hb) ?_
      rw [← List.map_tail]; exact memf.mpr hxb
    · intro p hp y hy
      obtain ⟨b, hb, hyb⟩ := h4 (p.map f) (List.mem_map_of_mem hp) (f y) (by rw [List.head?_map, hy]; rfl)
      obtain ⟨b', hb', rfl⟩ := List.mem_map.mp hb
      rw [← List.map_tail] at hyb
      exact ⟨b', hb', memf.mp hyb⟩
    · cases o₀ <;> simp

/-- what is left of the rows once E is told -/
def st8 (rows : List (List α)) (E : List α) : List (List α) := rows.map fun r => r.filter fun y => decide (y ∉ E)
/-- x is the next one told -/
def Pick (R : List (List α)) (x : α) : Prop := ∃ pre r post, R = pre ++ r :: post ∧ r.head? = some x ∧ (∀ b ∈ R, x ∉ b.tail) ∧ ∀ p ∈ pre, ∀ y, p.head? = some y → ∃ b ∈ R, y ∈ b.tail

theorem strip_filter {x : α} {r : List α} (h : x ∉ r.tail) : strip x r = r.filter fun y => decide (y ≠ x) := by
  unfold strip
  cases r with
  | nil => simp
  | cons a r =>
    simp only [List.head?_cons, Option.some.injEq, List.tail_cons] at h ⊢
    have hr : r.filter (fun y => decide (y ≠ x)) = r := List.filter_eq_self.mpr fun y hy => by simpa using fun (q : y = x) => h (q ▸ hy)
    by_cases ha : a = x
    · subst ha
      rw [if_pos rfl, List.filter_cons_of_neg (by simp), hr]
    · rw [if_neg ha, List.filter_cons_of_pos (by simpa using ha), hr]

theorem st8_snoc (rows : List (List α)) (E : List α) (x : α) : st8 rows (E ++ [x]) = (st8 rows E).map fun r => r.filter fun y => decide (y ≠ x) := by
  unfold st8
  rw [List.map_map]
  apply List.map_congr_left
  intro r _
  simp only [Function.comp_def, List.filter_filter]
  apply List.filter_congr
  intro y _
  by_cases h1 : y ∈ E <;> by_cases h2 : y = x <;> simp [h1, h2]

theorem mem_filter_ne {R : List (List α)} {b : List α} {y : α} (hb : b ∈ R) (hy : y ∈ b) : b ∈ R.filter neB := List.mem_filter.mpr ⟨hb, by cases b <;> simp [neB] at *⟩

theorem Pick.step {rows : List (List α)} {E : List α} {x : α} {o : Option (List α)} (h : Pick (st8 rows E) x) (hm : Merges (st8 rows (E ++ [x])) o) : Merges (st8 rows E) (o.map (x :: ·)) := by
  obtain ⟨pre, r, post, hR, hh, hg, hp⟩ := h
  have hrne : neB r = true := by cases r <;> simp [neB] at hh ⊢
  refine .step (pre := pre.filter neB) (r := r) (post := post.filter neB) ?_ hh ?_ ?_ ?_
  · rw [hR, List.filter_append, List.filter_cons_of_pos hrne]
  · exact fun b hb => hg b (List.mem_filter.mp hb).1
  · intro p hp' y hy
    obtain ⟨b, hb, hyb⟩ := hp p (List.mem_filter.mp hp').1 y hy
    exact ⟨b, mem_filter_ne hb (List.mem_of_mem_tail hyb), hyb⟩
  · refine Merges.congr ?_ hm
    rw [st8_snoc]
    have e1 : ((st8 rows E).filter neB).map (strip x) = ((st8 rows E).filter neB).map fun r => r.filter fun y => decide (y ≠ x) :=
      List.map_congr_left fun b hb => strip_filter (hg b (List.mem_filter.mp hb).1)
    rw [e1]
    generalize st8 rows E = R
    clear hm hR hh hg hp hrne e1
    induction R with
    | nil => rfl
    | cons a R ih =>
      cases a with
      | nil => simpa [neB] using ih
      | cons q a =>
        rw [List.filter_cons_of_pos (p := neB) (a := q :: a) (by rfl)]
        simp only [List.map_cons]
        by_cases hq : neB ((q :: a).filter fun y => decide (y ≠ x)) = true
        · rw [List.filter_cons_of_pos hq, List.filter_cons_of_pos hq, ih]
        · rw [List.filter_cons_of_neg hq, List.filter_cons_of_neg hq, ih]

/-- from E on, L is told one by one -/
def Runs (rows : List (List α)) : List α → List α → Prop
  | _, [] => True
  | E, x :: L => Pick (st8 rows E) x ∧ Runs rows (E ++ [x]) L
theorem Runs.append {rows : List (List α)} : ∀ {L₁ L₂ E : List α}, Runs rows E L₁ → Runs rows (E ++ L₁) L₂ → Runs rows E (L₁ ++ L₂)
  | [], _, _, _, h => by simpa using h
  | x :: L₁, _, _, h₁, h₂ => ⟨h₁.1, Runs.append h₁.2 (by simpa using h₂)⟩
theorem Runs.merges {rows : List (List α)} : ∀ {L E : List α}, Runs rows E L → (∀ r ∈ rows, ∀ y ∈ r, y ∈ E ++ L) → Merges (st8 rows E) (some L)
  | [], E, _, he => by
    refine .done (List.filter_eq_nil_iff.mpr fun b hb => ?_)
    obtain ⟨r, hr, rfl⟩ := List.mem_map.mp hb
    have : (r.filter fun y => decide (y ∉ E)) = [] := List.filter_eq_nil_iff.mpr fun y hy => by simpa using he r hr y hy
    rw [this]; simp [neB]
  | x :: L, E, h, he => by
    have := Pick.step h.1 (Runs.merges h.2 (by simpa using he))
    simpa using this
theorem st8_nil (rows : List (List α)) : st8 rows [] = rows := by
  unfold st8
  have : (fun r : List α => r.filter fun y => decide (y ∉ ([] : List α))) = id := by funext r; simp
  rw [this, List.map_id]

/-- the first row whose head is x, behind rows whose heads are x or shut out -/
theorem Pick.of {R : List (List α)} {x : α} {pre : List (List α)} {r : List α} {post : List (List α)} (hR : R = pre ++ r :: post) (hh : r.head? = some x) (hg : ∀ b ∈ R, x ∉ b.tail)
    (hp : ∀ p ∈ pre, ∀ y, p.head? = some y → y = x ∨ ∃ b ∈ R, y ∈ b.tail) : Pick R x := by
  suffices ∀ (done todo : List (List α)), R = done ++ todo ++ r :: post → (∀ p ∈ todo, ∀ y, p.head? = some y → y = x ∨ ∃ b ∈ R, y ∈ b.tail) → (∀ p ∈ done, ∀ y, p.head? = some y → ∃ b ∈ R, y ∈ b.tail) → Pick R x from
    this [] pre (by simpa using hR) hp (by simp)
  intro done todo
  induction todo generalizing done with
  | nil =>
    intro e _ h2
    exact ⟨done, r, post, by simpa using e, hh, hg, h2⟩
  | cons q todo ih =>
    intro e h1 h2
    by_cases hq : q.head? = some x
    · exact ⟨done, q, todo ++ r :: post, by simpa using e, hq, hg, h2⟩
    · refine ih (done ++ [q]) (by simpa using e) (fun p hp' => h1 p (List.mem_cons_of_mem _ hp')) fun p hp' y hy => ?_
      rcases List.mem_append.mp hp' with hp' | hp'
      · exact h2 p hp' y hy
      · rw [List.mem_singleton.mp hp'] at hy
        exact (h1 q List.mem_cons_self y hy).resolve_left fun e => hq (e ▸ hy)

/-- either some head is free, or all are shut out -/
theorem pick_or (R : List (List α)) : (∃ x, Pick R x) ∨ ∀ r ∈ R, ∀ x, r.head? = some x → ∃ b ∈ R, x ∈ b.tail := by
  by_cases h : ∀ r ∈ R, ∀ x, r.head? = some x → ∃ b ∈ R, x ∈ b.tail
  · exact .inr h
  · left
    suffices ∀ (done todo : List (List α)), R = done ++ todo → (∀ p ∈ done, ∀ y, p.head? = some y → ∃ b ∈ R, y ∈ b.tail) → ∃ x, Pick R x from this [] R rfl (by simp)
    intro done todo
    induction todo generalizing done with
    | nil =>
      intro e h2
      exact absurd (fun r hr => h2 r (by rw [e] at hr; simpa using hr)) h
    | cons q todo ih =>
      intro e h2
      by_cases hq : ∀ y, q.head? = some y → ∃ b ∈ R, y ∈ b.tail
      · refine ih (done ++ [q]) (by simpa using e) fun p hp y hy => ?_
        rcases List.mem_append.mp hp with hp | hp
        · exact h2 p hp y hy
        · rw [List.mem_singleton.mp hp] at hy; exact hq y hy
      · obtain ⟨y, hy⟩ := Classical.not_forall.mp hq
        obtain ⟨hy1, hy2⟩ := Classical.not_imp.mp hy
        exact ⟨y, done, q, todo, e, hy1, fun b hb hyb => hy2 ⟨b, hb, hyb⟩, h2⟩
end
end Mine

namespace Mine

theorem pre_take {y l : List Nat} (h : y <+: l) : l.take y.length = y := (List.prefix_iff_eq_take.mp h).symm
theorem pre_of_take {y l : List Nat} (h : l.take y.length = y) : y <+: l := List.prefix_iff_eq_take.mpr h.symm
theorem mem_preL {y l : List Nat} : y ∈ preL l ↔ y <+: l := by
  unfold preL
  rw [List.mem_map]
  constructor
  · rintro ⟨i, _, rfl⟩; exact List.take_prefix _ _
  · intro h
    exact ⟨y.length, List.mem_range.mpr (Nat.lt_succ_of_le h.length_le), pre_take h⟩
theorem preL_pairwise (l : List Nat) : (preL l).Pairwise fun a b => a.length < b.length := by
  unfold preL
  rw [List.pairwise_map]
  refine List.Pairwise.imp_of_mem (fun {i j} hi hj h => ?_) List.pairwise_lt_range
  rw [List.length_take, List.length_take]
  have := List.mem_range.mp hj
  omega

def rel (d : Bool) (a b : List Nat) : Prop := if d then b.length < a.length else a.length < b.length
theorem rel_asymm {d : Bool} {a b : List Nat} (h : rel d a b) : ¬ rel d b a := by
  unfold rel at *; split at h <;> simp_all <;> omega
theorem rel_irrefl {d : Bool} {a : List Nat} : ¬ rel d a a := fun h => rel_asymm h h

theorem rowOf_pairwise (x : Bool × List Nat) : (rowOf x).Pairwise (rel x.1) := by
  unfold rowOf rel
  cases x.1 with
  | true => simp only [if_true]; rw [List.pairwise_reverse]; exact preL_pairwise _
  | false => simp only [Bool.false_eq_true, if_false]; exact preL_pairwise _
theorem mem_rowOf {x : Bool × List Nat} {y : List Nat} : y ∈ rowOf x ↔ y <+: x.2 := by
  unfold rowOf; split <;> simp [mem_preL]

theorem head_of {R : List (List Nat)} {x : List Nat} {d : Bool} (hp : R.Pairwise (rel d)) (hx : x ∈ R) (hmin : ∀ z ∈ R, z = x ∨ rel d x z) : R.head? = some x := by
  cases R with
  | nil => cases hx
  | cons a r =>
    rcases List.mem_cons.mp hx with rfl | hx
    · rfl
    · rcases hmin a List.mem_cons_self with rfl | h
      · rfl
      · exact absurd ((List.pairwise_cons.mp hp).1 x hx) (rel_asymm h)
theorem tail_of {R : List (List Nat)} {y z : List Nat} {d : Bool} (hp : R.Pairwise (rel d)) (hy : y ∈ R) (hz : z ∈ R) (h : rel d z y) : y ∈ R.tail := by
  cases R with
  | nil => cases hy
  | cons a r =>
    rcases List.mem_cons.mp hy with rfl | hy
    · rcases List.mem_cons.mp hz with rfl | hz
      · exact absurd h rel_irrefl
      · exact absurd ((List.pairwise_cons.mp hp).1 z hz) (rel_asymm h)
    · exact hy
theorem before_tail {R : List (List Nat)} {y : List Nat} {d : Bool} (hp : R.Pairwise (rel d)) (h : y ∈ R.tail) : ∃ z ∈ R, rel d z y := by
  cases R with
  | nil => cases h
  | cons a r => exact ⟨a, List.mem_cons_self, (List.pairwise_cons.mp hp).1 y h⟩

/-- a way's row once E is told -/
def rs (E : List (List Nat)) (x : Bool × List Nat) : List (List Nat) := (rowOf x).filter fun y => decide (y ∉ E)
theorem rs_pairwise (E : List (List Nat)) (x : Bool × List Nat) : (rs E x).Pairwise (rel x.1) := (rowOf_pairwise x).filter _
theorem mem_rs {E : List (List Nat)} {x : Bool × List Nat} {y : List Nat} : y ∈ rs E x ↔ y <+: x.2 ∧ y ∉ E := by
  unfold rs; rw [List.mem_filter, mem_rowOf]; simp
theorem st8_rows (ws : List (Bool × List Nat)) (E : List (List Nat)) : st8 (rowsL ws) E = [] :: ws.map (rs E) := by
  unfold st8 rowsL rs
  simp [Function.comp_def]

/-- d goes no further in ds -/
def Mx (ds : List (List Nat)) (d : List Nat) : Prop := ∀ o ∈ ds, d <+: o → o = d
theorem longer_nil {ds : List (List Nat)} {d : List Nat} : longerL ds d = [] ↔ Mx ds d := by
  unfold longerL Mx
  rw [List.filter_eq_nil_iff]
  refine forall_congr' fun o => forall_congr' fun _ => ?_
  simp only [Bool.and_eq_true, bne_iff_ne, ne_eq, beq_iff_eq, not_and]
  constructor
  · intro h hp
    exact Classical.byContradiction fun hne => h hne (pre_take hp)
  · intro h hne ht
    exact hne (h (pre_of_take ht))

theorem kept_fold (ds : List (List Nat)) : ∀ l acc : List (List Nat), ∃ extra, l.foldl (keptStep ds) acc = acc ++ extra ∧ (∀ k ∈ extra, k ∈ l ∧ Mx ds k ∧ k ∉ acc) ∧ extra.Nodup ∧ ∀ d ∈ l, Mx ds d → d ∈ acc ++ extra
  | [], acc => ⟨[], by simp, by simp, by simp, by simp⟩
  | x :: r, acc => by
    by_cases hx : Mx ds x ∧ x ∉ acc
    · obtain ⟨extra, h1, h2, h3, h4⟩ := kept_fold ds r (acc ++ [x])
      refine ⟨x :: extra, ?_, ?_, ?_, ?_⟩
      · rw [List.foldl_cons, keptStep, if_pos ⟨longer_nil.mpr hx.1, hx.2⟩, h1]; simp
      · intro k hk
        rcases List.mem_cons.mp hk with rfl | hk
        · exact ⟨List.mem_cons_self, hx⟩
        · obtain ⟨a, b, c⟩ := h2 k hk
          exact ⟨List.mem_cons_of_mem _ a, b, fun q => c (List.mem_append_left _ q)⟩
      · exact List.nodup_cons.mpr ⟨fun q => (h2 x q).2.2 (by simp), h3⟩
      · intro d hd hm
        rcases List.mem_cons.mp hd with rfl | hd
        · simp
        · simpa using h4 d hd hm
    · obtain ⟨extra, h1, h2, h3, h4⟩ := kept_fold ds r acc
      refine ⟨extra, ?_, ?_, h3, ?_⟩
      · rw [List.foldl_cons, keptStep, if_neg fun q => hx ⟨longer_nil.mp q.1, q.2⟩, h1]
      · intro k hk
        obtain ⟨a, b, c⟩ := h2 k hk
        exact ⟨List.mem_cons_of_mem _ a, b, c⟩
      · intro d hd hm
        rcases List.mem_cons.mp hd with rfl | hd
        · exact List.mem_append_left _ (Classical.byContradiction fun q => hx ⟨hm, q⟩)
        · exact h4 d hd hm

theorem kept_max {ds : List (List Nat)} {k : List Nat} (h : k ∈ keptL ds) : k ∈ ds ∧ Mx ds k := by
  obtain ⟨extra, h1, h2, _, _⟩ := kept_fold ds ds []
  unfold keptL at h
  rw [h1, List.nil_append] at h
  exact ⟨(h2 k h).1, (h2 k h).2.1⟩
theorem kept_of_max {ds : List (List Nat)} {k : List Nat} (h : k ∈ ds) (hm : Mx ds k) : k ∈ keptL ds := by
  obtain ⟨extra, h1, _, _, h4⟩ := kept_fold ds ds []
  unfold keptL
  rw [h1]; exact h4 k h hm
theorem kept_nodup (ds : List (List Nat)) : (keptL ds).Nodup := by
  obtain ⟨extra, h1, _, h3, _⟩ := kept_fold ds ds []
  unfold keptL
  rw [h1]; simpa using h3
theorem len_le_sum {ds : List (List Nat)} {d : List Nat} (h : d ∈ ds) : d.length ≤ (ds.map List.length).sum := by
  induction ds with
  | nil => cases h
  | cons a r ih =>
    simp only [List.map_cons, List.sum_cons]
    rcases List.mem_cons.mp h with rfl | h
    · omega
    · have := ih h; omega
theorem kept_cover {ds : List (List Nat)} : ∀ (n : Nat) (d : List Nat), d ∈ ds → (ds.map List.length).sum - d.length ≤ n → ∃ k ∈ keptL ds, d <+: k
  | n, d, hd, hn => by
    by_cases hm : Mx ds d
    · exact ⟨d, kept_of_max hd hm, List.prefix_refl _⟩
    · obtain ⟨o, ho⟩ := Classical.not_forall.mp hm
      obtain ⟨ho1, ho2⟩ := Classical.not_imp.mp ho
      obtain ⟨ho3, ho4⟩ := Classical.not_imp.mp ho2
      have hlt : d.length < o.length := by
        rcases Nat.lt_or_ge d.length o.length with h | h
        · exact h
        · exact absurd (ho3.eq_of_length_le h).symm ho4
      have hs := len_le_sum ho1
      cases n with
      | zero => omega
      | succ n =>
        obtain ⟨k, hk, hok⟩ := kept_cover n o ho1 (by omega)
        exact ⟨k, hk, ho3.trans hok⟩
theorem kept_order {ds done later A B : List (List Nat)} {k : List Nat} (hk : keptL ds = done ++ k :: later) (hd : ds = A ++ k :: B) (hA : k ∉ A) : ∀ k' ∈ later, k' ∉ A := by
  intro k' hk' hA'
  have hmk : Mx ds k := (kept_max (by rw [hk]; simp)).2
  have hmk' : Mx ds k' := (kept_max (by rw [hk]; simp [hk'])).2
  obtain ⟨ea, ha1, ha2, _, ha4⟩ := kept_fold ds A []
  have hkea : k ∉ ea := fun q => hA (ha2 k q).1
  obtain ⟨eb, hb1, hb2, _, _⟩ := kept_fold ds B (ea ++ [k])
  have hkept : keptL ds = ea ++ k :: eb := by
    unfold keptL
    have : ds.foldl (keptStep ds) [] = (A ++ k :: B).foldl (keptStep ds) [] := by rw [← hd]
    rw [this, List.foldl_append, ha1, List.foldl_cons, List.nil_append, keptStep, if_pos ⟨longer_nil.mpr hmk, hkea⟩, hb1]
    simp
  have hnd := kept_nodup ds
  have e : done ++ k :: later = ea ++ k :: eb := hk.symm.trans hkept
  have hle : later = eb := by
    rcases List.append_eq_append_iff.mp e with ⟨a, h1, h2⟩ | ⟨a, h1, h2⟩
    · cases a with
      | nil => simp at h2; exact h2
      | cons q a =>
        simp only [List.cons_append, List.cons.injEq] at h2
        exact absurd (by rw [h1, ← h2.1]; simp) hkea
    · cases a with
      | nil => simp at h2; exact h2.symm
      | cons q a =>
        simp only [List.cons_append, List.cons.injEq] at h2
        rw [hk, h1, ← h2.1] at hnd
        rw [List.nodup_append] at hnd
        exact absurd rfl (hnd.2.2 k (by simp) k (by simp))
  have hin : k' ∈ ea := by simpa using ha4 k' hA' hmk'
  exact (hb2 k' (hle ▸ hk')).2.2 (List.mem_append_left _ hin)
end Mine

namespace Mine

def freshB (later : List (List Nat)) (k : List Nat) (s : Nat) : Bool := decide ((later.filter fun o => o.take s == k.take s) = [])
def odF (later : List (List Nat)) (k : List Nat) : List (List Nat) := ((downsizes k.length).filter (freshB later k)).map (k.take ·)
def od : List (List Nat) → List (List Nat)
  | [] => []
  | k :: later => odF later k ++ od later

theorem parts_fold (later : List (List Nat)) (k : List Nat) : ∀ (l : List Nat) (order : List (List Nat)), l.foldl (partStep later k) order = order ++ (l.filter (freshB later k)).map (k.take ·)
  | [], order => by simp
  | s :: l, order => by
    rw [List.foldl_cons, parts_fold later k l, partStep]
    by_cases h : (later.filter fun o => o.take s == k.take s) = []
    · rw [if_pos h, List.filter_cons_of_pos (by unfold freshB; exact decide_eq_true h)]; simp
    · rw [if_neg h, List.filter_cons_of_neg (by unfold freshB; simpa using h)]
theorem place_fold : ∀ (todo done order : List (List Nat)), (List.range' done.length todo.length).foldl (placeStep (done ++ todo)) order = order ++ od todo
  | [], done, order => by simp [od]
  | k :: todo, done, order => by
    have e : done ++ k :: todo = (done ++ [k]) ++ todo := by simp
    have h1 : placeStep (done ++ k :: todo) order done.length = order ++ odF todo k := by
      unfold placeStep partsOf
      rw [parts_fold]
      have a : (done ++ k :: todo).drop (done.length + 1) = todo := by rw [List.drop_append]; simp
      have b : (done ++ k :: todo).getD done.length [] = k := by rw [List.getD_eq_getElem?_getD]; simp
      rw [a, b]; rfl
    rw [List.length_cons, List.range'_succ, List.foldl_cons, h1, e]
    have := place_fold todo (done ++ [k]) (order ++ odF todo k)
    rw [List.length_append, List.length_singleton] at this
    rw [this, od]; simp
theorem orderD_od (kept : List (List Nat)) : orderD kept = od kept := by
  unfold orderD
  rw [List.range_eq_range']
  have := place_fold kept [] []
  simpa using this

theorem mem_downsizes {n s : Nat} : s ∈ downsizes n ↔ 1 ≤ s ∧ s ≤ n := by
  unfold downsizes
  rw [List.mem_map]
  constructor
  · rintro ⟨i, hi, rfl⟩
    have := List.mem_range.mp hi
    omega
  · intro h
    exact ⟨n - s, List.mem_range.mpr (by omega), by omega⟩
theorem downsizes_pairwise (n : Nat) : (downsizes n).Pairwise (· > ·) := by
  unfold downsizes
  rw [List.pairwise_map]
  refine List.Pairwise.imp_of_mem (fun {i j} hi hj h => ?_) List.pairwise_lt_range
  have := List.mem_range.mp hj
  show n - i > n - j
  omega
theorem fresh_iff {later : List (List Nat)} {k : List Nat} {s : Nat} (hs : s ≤ k.length) : freshB later k s = true ↔ ∀ k' ∈ later, ¬ k.take s <+: k' := by
  unfold freshB
  rw [decide_eq_true_eq, List.filter_eq_nil_iff]
  refine forall_congr' fun o => forall_congr' fun _ => ?_
  rw [beq_iff_eq]
  have hl : (k.take s).length = s := by rw [List.length_take]; omega
  constructor
  · intro h hp
    have := pre_take hp
    rw [hl] at this
    exact h this
  · intro h e
    exact h (pre_of_take (by rw [hl]; exact e))
theorem mem_odF {later : List (List Nat)} {k y : List Nat} : y ∈ odF later k ↔ y ≠ [] ∧ y <+: k ∧ ∀ k' ∈ later, ¬ y <+: k' := by
  unfold odF
  rw [List.mem_map]
  constructor
  · rintro ⟨s, hs, rfl⟩
    obtain ⟨h1, h2⟩ := List.mem_filter.mp hs
    obtain ⟨h3, h4⟩ := mem_downsizes.mp h1
    refine ⟨fun e => ?_, List.take_prefix _ _, (fresh_iff h4).mp h2⟩
    have := congrArg List.length e
    rw [List.length_take, List.length_nil] at this
    omega
  · rintro ⟨h1, h2, h3⟩
    have e := pre_take h2
    refine ⟨y.length, List.mem_filter.mpr ⟨mem_downsizes.mpr ⟨?_, h2.length_le⟩, (fresh_iff h2.length_le).mpr (by rw [e]; exact h3)⟩, e⟩
    cases y with
    | nil => exact absurd rfl h1
    | cons a r => simp
theorem mem_od {y : List Nat} : ∀ {kept : List (List Nat)}, y ∈ od kept ↔ y ≠ [] ∧ ∃ k ∈ kept, y <+: k
  | [] => by simp [od]
  | k :: later => by
    rw [od, List.mem_append, mem_odF, mem_od]
    constructor
    · rintro (⟨a, b, _⟩ | ⟨a, k', h1, h2⟩)
      · exact ⟨a, k, List.mem_cons_self, b⟩
      · exact ⟨a, k', List.mem_cons_of_mem _ h1, h2⟩
    · rintro ⟨a, k', h1, h2⟩
      by_cases hl : ∃ k' ∈ later, y <+: k'
      · exact .inr ⟨a, hl⟩
      · rcases List.mem_cons.mp h1 with rfl | h1
        · exact .inl ⟨a, h2, fun q hq hy => hl ⟨q, hq, hy⟩⟩
        · exact absurd ⟨k', h1, h2⟩ hl

theorem split_od {x : List Nat} {rest : List (List Nat)} : ∀ {kept E : List (List Nat)}, od kept = E ++ x :: rest →
    ∃ done k later, kept = done ++ k :: later ∧ x ≠ [] ∧ x <+: k ∧ (∀ k' ∈ later, ¬ x <+: k') ∧ ∀ y, (∃ k' ∈ kept, y <+: k') → (y ∉ E ↔ y <+: x ∨ ∃ k' ∈ later, y <+: k')
  | [], E, h => by simp [od] at h
  | k :: kept, E, h => by
    rw [od] at h
    have later_case : ∀ a, E = odF kept k ++ a → od kept = a ++ x :: rest → ∃ done k₁ later, k :: kept = done ++ k₁ :: later ∧ x ≠ [] ∧ x <+: k₁ ∧ (∀ k' ∈ later, ¬ x <+: k') ∧ ∀ y, (∃ k' ∈ k :: kept, y <+: k') → (y ∉ E ↔ y <+: x ∨ ∃ k' ∈ later, y <+: k') := by
      intro a hE hod
      obtain ⟨done, k₁, later, hk, h1, h2, h3, h4⟩ := split_od hod
      refine ⟨k :: done, k₁, later, by rw [hk]; rfl, h1, h2, h3, fun y hy => ?_⟩
      by_cases hl : ∃ k' ∈ kept, y <+: k'
      · rw [← h4 y hl, hE, List.mem_append, mem_odF]
        obtain ⟨q, hq, hyq⟩ := hl
        constructor
        · exact fun hn hy => hn (.inr hy)
        · rintro hn (⟨_, _, c⟩ | hy)
          · exact c q hq hyq
          · exact hn hy
      · have hyk : y <+: k := by
          obtain ⟨q, hq, hyq⟩ := hy
          rcases List.mem_cons.mp hq with rfl | hq
          · exact hyq
          · exact absurd ⟨q, hq, hyq⟩ hl
        have hk₁ : k₁ ∈ kept := by rw [hk]; simp
        have hyne : y ≠ [] := fun e => hl ⟨k₁, hk₁, e ▸ List.nil_prefix⟩
        constructor
        · intro hn
          exact absurd (by rw [hE, List.mem_append, mem_odF]; exact .inl ⟨hyne, hyk, fun q hq hyq => hl ⟨q, hq, hyq⟩⟩) hn
        · rintro (hyx | ⟨q, hq, hyq⟩)
          · exact absurd ⟨k₁, hk₁, hyx.trans h2⟩ hl
          · exact absurd ⟨q, by rw [hk]; simp [hq], hyq⟩ hl
    rcases List.append_eq_append_iff.mp h with ⟨a, ha, hb⟩ | ⟨a, ha, hb⟩
    · exact later_case a ha hb
    · cases a with
      | nil => exact later_case [] (by simpa using ha.symm) (by simpa using hb.symm)
      | cons q b =>
        simp only [List.cons_append, List.cons.injEq] at hb
        obtain ⟨rfl, hb⟩ := hb
        have hF := ha
        unfold odF at ha
        obtain ⟨l1, l2', hl, hl1, hl2⟩ := List.map_eq_append_iff.mp ha
        obtain ⟨s, l2, rfl, hs, _⟩ := List.map_eq_cons_iff.mp hl2
        have hsm : s ∈ (downsizes k.length).filter (freshB kept k) := by rw [hl]; simp
        obtain ⟨hs1, hs2⟩ := List.mem_filter.mp hsm
        obtain ⟨hs3, hs4⟩ := mem_downsizes.mp hs1
        have hxF : x ∈ odF kept k := by rw [hF]; simp
        obtain ⟨hx1, hx2, hx3⟩ := mem_odF.mp hxF
        have hxl : x.length = s := by rw [← hs, List.length_take]; omega
        refine ⟨[], k, kept, rfl, hx1, hx2, hx3, fun y hy => ?_⟩
        have hpw := (downsizes_pairwise k.length).filter (freshB kept k)
        rw [hl, List.pairwise_append] at hpw
        constructor
        · intro hn
          by_cases hlt : ∃ k' ∈ kept, y <+: k'
          · exact .inr hlt
          · left
            have hyk : y <+: k := by
              obtain ⟨q, hq, hyq⟩ := hy
              rcases List.mem_cons.mp hq with rfl | hq
              · exact hyq
              · exact absurd ⟨q, hq, hyq⟩ hlt
            rcases Nat.lt_or_ge x.length y.length with hlen | hlen
            · exfalso
              apply hn
              have e := pre_take hyk
              have hm : y.length ∈ (downsizes k.length).filter (freshB kept k) :=
                List.mem_filter.mpr ⟨mem_downsizes.mpr ⟨by omega, hyk.length_le⟩, (fresh_iff hyk.length_le).mpr (by rw [e]; exact fun q hq hyq => hlt ⟨q, hq, hyq⟩)⟩
              rw [hl] at hm
              rcases List.mem_append.mp hm with hm | hm
              · rw [← hl1]; exact List.mem_map.mpr ⟨_, hm, e⟩
              · exfalso
                rcases List.mem_cons.mp hm with hm | hm
                · omega
                · have := (List.pairwise_cons.mp hpw.2.1).1 _ hm
                  omega
            · exact List.prefix_of_prefix_length_le hyk hx2 hlen
        · intro hor hyE
          have hyF : y ∈ odF kept k := by rw [hF]; exact List.mem_append_left _ hyE
          obtain ⟨hy1, hy2, hy3⟩ := mem_odF.mp hyF
          rcases hor with hyx | ⟨q, hq, hyq⟩
          · rw [← hl1] at hyE
            obtain ⟨s', hs', rfl⟩ := List.mem_map.mp hyE
            have h1 := hpw.2.2 s' hs' s (by simp)
            have h2 := hyx.length_le
            have h3 : s' ∈ (downsizes k.length).filter (freshB kept k) := by rw [hl]; exact List.mem_append_left _ hs'
            have h4 := (mem_downsizes.mp (List.mem_filter.mp h3).1).2
            rw [List.length_take] at h2
            omega
          · exact hy3 q hq hyq
end Mine

namespace Mine

theorem mem_dns {ws : List (Bool × List Nat)} {d : List Nat} : d ∈ dns ws ↔ (true, d) ∈ ws := by
  unfold dns
  rw [List.mem_map]
  constructor
  · rintro ⟨⟨b, l⟩, hx, rfl⟩
    obtain ⟨h1, h2⟩ := List.mem_filter.mp hx
    cases h2
    exact h1
  · intro h
    exact ⟨_, List.mem_filter.mpr ⟨h, rfl⟩, rfl⟩
theorem take1 {x l : List Nat} (hx : x ≠ []) (h : x <+: l) : l.take 1 = x.take 1 := by
  obtain ⟨t, rfl⟩ := h
  cases x with
  | nil => exact absurd rfl hx
  | cons a r => simp
theorem no_clash {ws : List (Bool × List Nat)} (hc : clashL ws = []) {u d c : List Nat} (hu : (false, u) ∈ ws) (hd : (true, d) ∈ ws) (hcu : c <+: u) (hcd : c <+: d) : c = [] := by
  apply Classical.byContradiction
  intro hne
  unfold clashL at hc
  rw [List.map_eq_nil_iff, List.filter_eq_nil_iff] at hc
  refine hc _ hu ?_
  simp only [Bool.not_false, Bool.true_and, decide_eq_true_eq]
  unfold firstsL
  rw [List.mem_map]
  refine ⟨d, List.mem_filter.mpr ⟨mem_dns.mpr hd, ?_⟩, by rw [take1 hne hcd, take1 hne hcu]⟩
  rw [bne_iff_ne]
  rintro rfl
  exact hne (List.prefix_nil.mp hcd)
theorem clash_some {ws : List (Bool × List Nat)} (hc : clashL ws ≠ []) : ∃ u d c, (false, u) ∈ ws ∧ (true, d) ∈ ws ∧ c <+: u ∧ c <+: d ∧ c ≠ [] := by
  obtain ⟨u, hu⟩ := List.exists_mem_of_ne_nil _ hc
  unfold clashL at hu
  rw [List.mem_map] at hu
  obtain ⟨⟨b, l⟩, hx, rfl⟩ := hu
  obtain ⟨h1, h2⟩ := List.mem_filter.mp hx
  simp only [Bool.and_eq_true, Bool.not_eq_true', decide_eq_true_eq] at h2
  obtain ⟨rfl, h3⟩ := h2
  unfold firstsL at h3
  obtain ⟨d, hd, e⟩ := List.mem_map.mp h3
  obtain ⟨h4, h5⟩ := List.mem_filter.mp hd
  rw [bne_iff_ne] at h5
  refine ⟨l, d, l.take 1, h1, mem_dns.mp h4, List.take_prefix _ _, e ▸ List.take_prefix _ _, ?_⟩
  rw [← e]
  cases d with
  | nil => exact absurd rfl h5
  | cons a r => simp

theorem rel_true {a b : List Nat} : rel true a b ↔ b.length < a.length := by unfold rel; simp
theorem rel_false {a b : List Nat} : rel false a b ↔ a.length < b.length := by unfold rel; simp
theorem pre_or {y x : List Nat} (h : y <+: x) : y = x ∨ y.length < x.length := by
  rcases Nat.lt_or_ge y.length x.length with hl | hl
  · exact .inr hl
  · exact .inl (h.eq_of_length_le hl)
theorem len_pos {x : List Nat} (h : x ≠ []) : 0 < x.length := by cases x with
  | nil => exact absurd rfl h
  | cons a r => simp
theorem mem_head {α : Type} {r : List α} {y : α} (h : r.head? = some y) : y ∈ r := List.mem_of_head? h

theorem phase1 {ws : List (Bool × List Nat)} (hc : clashL ws = []) {E rest : List (List Nat)} {x : List Nat} (h : od (keptL (dns ws)) = E ++ x :: rest) : Pick (st8 (rowsL ws) E) x := by
  obtain ⟨done, k, later, hk, hx0, hxk, hxl, hE⟩ := split_od h
  have hkk : k ∈ keptL (dns ws) := by rw [hk]; simp
  have hlk : ∀ k' ∈ later, k' ∈ keptL (dns ws) := fun k' h' => by rw [hk]; simp [h']
  have hE' : ∀ y d, (true, d) ∈ ws → y <+: d → (y ∉ E ↔ y <+: x ∨ ∃ k' ∈ later, y <+: k') := by
    intro y d hd hy
    obtain ⟨k', hk', hdk⟩ := kept_cover _ d (mem_dns.mpr hd) (Nat.le_refl _)
    exact hE y ⟨k', hk', hy.trans hdk⟩
  have hkw : (true, k) ∈ ws := mem_dns.mp (kept_max hkk).1
  have hxE : x ∉ E := (hE' x k hkw hxk).mpr (.inl (List.prefix_refl _))
  have h0E : ([] : List Nat) ∉ E := (hE' [] k hkw List.nil_prefix).mpr (.inl List.nil_prefix)
  obtain ⟨A, B, hws, hA⟩ := List.eq_append_cons_of_mem hkw
  have hdns : dns ws = dns A ++ k :: dns B := by rw [hws]; unfold dns; simp
  have hkA : k ∉ dns A := fun q => hA (mem_dns.mp q)
  have hxr : x ∈ rs E (true, k) := mem_rs.mpr ⟨hxk, hxE⟩
  have hrk : rs E (true, k) ∈ st8 (rowsL ws) E := by rw [st8_rows]; exact List.mem_cons_of_mem _ (List.mem_map_of_mem hkw)
  refine Pick.of (pre := [] :: A.map (rs E)) (r := rs E (true, k)) (post := B.map (rs E)) ?_ ?_ ?_ ?_
  · rw [st8_rows, hws]; simp
  · refine head_of (rs_pairwise E _) hxr fun z hz => ?_
    obtain ⟨hz1, hz2⟩ := mem_rs.mp hz
    show z = x ∨ rel true x z
    rw [rel_true]
    rcases (hE' z k hkw hz1).mp hz2 with hzx | ⟨k', hk', hzk⟩
    · exact pre_or hzx
    · right
      rcases Nat.lt_or_ge z.length x.length with hl | hl
      · exact hl
      · exact absurd ((List.prefix_of_prefix_length_le hxk hz1 hl).trans hzk) (hxl k' hk')
  · intro b hb hxb
    rw [st8_rows] at hb
    rcases List.mem_cons.mp hb with rfl | hb
    · cases hxb
    · obtain ⟨⟨d, l⟩, hw, rfl⟩ := List.mem_map.mp hb
      obtain ⟨z, hz, hr⟩ := before_tail (rs_pairwise E _) hxb
      obtain ⟨hz1, hz2⟩ := mem_rs.mp hz
      obtain ⟨hx1, _⟩ := mem_rs.mp (List.mem_of_mem_tail hxb)
      cases d with
      | false => exact hx0 (no_clash hc hw hkw hx1 hxk)
      | true =>
        have hr' : x.length < z.length := rel_true.mp hr
        rcases (hE' z l hw hz1).mp hz2 with hzx | ⟨k', hk', hzk⟩
        · have := hzx.length_le; omega
        · exact hxl k' hk' ((List.prefix_of_prefix_length_le hx1 hz1 (Nat.le_of_lt hr')).trans hzk)
  · intro p hp y hy
    rcases List.mem_cons.mp hp with rfl | hp
    · cases hy
    · obtain ⟨⟨d, l⟩, hw, rfl⟩ := List.mem_map.mp hp
      have hww : (d, l) ∈ ws := by rw [hws]; exact List.mem_append_left _ hw
      obtain ⟨hy1, hy2⟩ := mem_rs.mp (mem_head hy)
      cases d with
      | false =>
        have : (rs E (false, l)).head? = some [] := head_of (rs_pairwise E _) (mem_rs.mpr ⟨List.nil_prefix, h0E⟩) fun z _ => by
          by_cases hz : z = []
          · exact .inl hz
          · exact .inr (rel_false.mpr (len_pos hz))
        rw [this] at hy
        cases hy
        exact .inr ⟨_, hrk, tail_of (rs_pairwise E _) (mem_rs.mpr ⟨List.nil_prefix, h0E⟩) hxr (rel_true.mpr (len_pos hx0))⟩
      | true =>
        rcases (hE' y l hww hy1).mp hy2 with hyx | ⟨k', hk', hyk⟩
        · rcases pre_or hyx with e | hlt
          · exact .inl e
          · exact .inr ⟨_, hrk, tail_of (rs_pairwise E _) (mem_rs.mpr ⟨hyx.trans hxk, hy2⟩) hxr (rel_true.mpr hlt)⟩
        · obtain ⟨hm1, hm2⟩ := kept_max (hlk k' hk')
          rcases pre_or hyk with rfl | hlt
          · have : l = y := hm2 l (mem_dns.mpr hww) hy1
            subst this
            exact absurd (mem_dns.mpr hw) (kept_order hk hdns hkA l hk')
          · have hkw' := mem_dns.mp hm1
            have hkE : k' ∉ E := (hE' k' k' hkw' (List.prefix_refl _)).mpr (.inr ⟨k', hk', List.prefix_refl _⟩)
            refine .inr ⟨rs E (true, k'), by rw [st8_rows]; exact List.mem_cons_of_mem _ (List.mem_map_of_mem hkw'), tail_of (rs_pairwise E _) (mem_rs.mpr ⟨hyk, hy2⟩) (mem_rs.mpr ⟨List.prefix_refl _, hkE⟩) (rel_true.mpr hlt)⟩

theorem runs_of {rows : List (List (List Nat))} {L : List (List Nat)} (h : ∀ E x rest, L = E ++ x :: rest → Pick (st8 rows E) x) : ∀ todo done, L = done ++ todo → Runs rows done todo
  | [], _, _ => trivial
  | x :: todo, done, e => ⟨h done x todo e, runs_of h todo (done ++ [x]) (by simpa using e)⟩

theorem downs_in {ws : List (Bool × List Nat)} {y d : List Nat} (hd : (true, d) ∈ ws) (hy : y <+: d) (h : y ≠ []) : y ∈ od (keptL (dns ws)) := by
  obtain ⟨k', hk', hdk⟩ := kept_cover _ d (mem_dns.mpr hd) (Nat.le_refl _)
  exact mem_od.mpr ⟨h, k', hk', hy.trans hdk⟩

theorem phase2 {ws : List (Bool × List Nat)} (hne : ws ≠ []) : Pick (st8 (rowsL ws) (od (keptL (dns ws)))) [] := by
  have h0 : ([] : List Nat) ∉ od (keptL (dns ws)) := fun q => (mem_od.mp q).1 rfl
  cases ws with
  | nil => exact absurd rfl hne
  | cons w B =>
    generalize hE : od (keptL (dns (w :: B))) = E at h0
    refine ⟨[[]], rs E w, B.map (rs E), by rw [st8_rows]; simp, ?_, ?_, ?_⟩
    · refine head_of (rs_pairwise E _) (mem_rs.mpr ⟨List.nil_prefix, h0⟩) fun z hz => ?_
      by_cases hz0 : z = []
      · exact .inl hz0
      · obtain ⟨hz1, hz2⟩ := mem_rs.mp hz
        obtain ⟨d, l⟩ := w
        cases d with
        | false => exact .inr (rel_false.mpr (len_pos hz0))
        | true => exact absurd (hE ▸ downs_in (by simp) hz1 hz0) hz2
    · intro b hb hxb
      rw [st8_rows] at hb
      rcases List.mem_cons.mp hb with rfl | hb
      · cases hxb
      · obtain ⟨⟨d, l⟩, hw, rfl⟩ := List.mem_map.mp hb
        obtain ⟨z, hz, hr⟩ := before_tail (rs_pairwise E _) hxb
        obtain ⟨hz1, hz2⟩ := mem_rs.mp hz
        cases d with
        | false => have := rel_false.mp hr; simp at this
        | true =>
          have := rel_true.mp hr
          have hz0 : z ≠ [] := by rintro rfl; simp at this
          exact hz2 (hE ▸ downs_in hw hz1 hz0)
    · intro p hp y hy
      rw [List.mem_singleton.mp hp] at hy
      cases hy

theorem up_one {ws A B : List (Bool × List Nat)} {x : Bool × List Nat} (hws : ws = A ++ x :: B) (hx : x.1 = false) (order : List (List Nat)) (h0 : [] ∈ order) (hD : ∀ d, (true, d) ∈ ws → ∀ y, y <+: d → y ∈ order)
    (hA : ∀ w ∈ A, ∀ y, y <+: w.2 → y ∈ order) : ∀ i, i ≤ x.2.length → ∃ added, (List.range i).foldl (fun o i => upStep x o (i + 1)) order = order ++ added ∧ Runs (rowsL ws) order added ∧ ∀ j, j ≤ i → x.2.take j ∈ order ++ added
  | 0, _ => ⟨[], by simp, trivial, fun j hj => by rw [Nat.le_zero.mp hj]; simpa using h0⟩
  | i + 1, hi => by
    obtain ⟨added, h1, h2, h3⟩ := up_one hws hx order h0 hD hA i (by omega)
    have e : (List.range (i + 1)).foldl (fun o i => upStep x o (i + 1)) order = upStep x (order ++ added) (i + 1) := by
      rw [List.range_succ, List.foldl_append, h1]; rfl
    by_cases hin : x.2.take (i + 1) ∈ order ++ added
    · refine ⟨added, by rw [e, upStep_in hin], h2, fun j hj => ?_⟩
      rcases Nat.lt_or_ge i j with h | h
      · rw [show j = i + 1 by omega]; exact hin
      · exact h3 j h
    · refine ⟨added ++ [x.2.take (i + 1)], by rw [e, upStep_new hx hin, List.append_assoc], h2.append ⟨?_, trivial⟩, fun j hj => ?_⟩
      · generalize hEE : order ++ added = E at hin h3
        have hsub : ∀ y ∈ order, y ∈ E := fun y hy => hEE ▸ List.mem_append_left _ hy
        have hcl : (x.2.take (i + 1)).length = i + 1 := by rw [List.length_take]; omega
        have small : ∀ z, z <+: x.2 → z ∉ E → i + 1 ≤ z.length := fun z hz hzE => by
          rcases Nat.lt_or_ge i z.length with h | h
          · exact h
          · exact absurd (pre_take hz ▸ h3 _ h) hzE
        refine ⟨[] :: A.map (rs E), rs E x, B.map (rs E), by rw [st8_rows, hws]; simp, ?_, ?_, ?_⟩
        · refine head_of (rs_pairwise E _) (mem_rs.mpr ⟨List.take_prefix _ _, hin⟩) fun z hz => ?_
          obtain ⟨hz1, hz2⟩ := mem_rs.mp hz
          have hl := small z hz1 hz2
          rw [hx, rel_false]
          have := List.prefix_of_prefix_length_le (List.take_prefix (i + 1) x.2) hz1 (by rw [hcl]; exact hl)
          exact (pre_or this).imp Eq.symm id
        · intro b hb hxb
          rw [st8_rows] at hb
          rcases List.mem_cons.mp hb with rfl | hb
          · cases hxb
          · obtain ⟨⟨d, l⟩, hw, rfl⟩ := List.mem_map.mp hb
            obtain ⟨z, hz, hr⟩ := before_tail (rs_pairwise E _) hxb
            obtain ⟨hz1, hz2⟩ := mem_rs.mp hz
            obtain ⟨hc1, _⟩ := mem_rs.mp (List.mem_of_mem_tail hxb)
            cases d with
            | true => exact hz2 (hsub _ (hD l hw z hz1))
            | false =>
              have hr' := rel_false.mp hr
              have hzc := List.prefix_of_prefix_length_le hz1 hc1 (Nat.le_of_lt hr')
              have := small z (hzc.trans (List.take_prefix _ _)) hz2
              rw [hcl] at hr'
              omega
        · intro p hp y hy
          rcases List.mem_cons.mp hp with rfl | hp
          · cases hy
          · obtain ⟨w, hw, rfl⟩ := List.mem_map.mp hp
            obtain ⟨hy1, hy2⟩ := mem_rs.mp (mem_head hy)
            exact absurd (hsub _ (hA w hw y hy1)) hy2
      · rw [← List.append_assoc]
        rcases Nat.lt_or_ge i j with h | h
        · rw [show j = i + 1 by omega]; simp
        · exact List.mem_append_left _ (h3 j h)

theorem upsOf_down {x : Bool × List Nat} (hx : x.1 = true) (order : List (List Nat)) : upsOf order x = order := by
  unfold upsOf
  generalize List.range x.2.length = l
  induction l generalizing order with
  | nil => rfl
  | cons a l ih => rw [List.foldl_cons, upStep_down hx, ih]

theorem ups_all {ws : List (Bool × List Nat)} : ∀ (B A : List (Bool × List Nat)) (order : List (List Nat)), ws = A ++ B → [] ∈ order → (∀ d, (true, d) ∈ ws → ∀ y, y <+: d → y ∈ order) → (∀ w ∈ A, ∀ y, y <+: w.2 → y ∈ order) →
    ∃ added, orderU B order = order ++ added ∧ Runs (rowsL ws) order added ∧ ∀ w ∈ ws, ∀ y, y <+: w.2 → y ∈ order ++ added
  | [], A, order, e, _, _, hA => ⟨[], by simp [orderU], trivial, fun w hw y hy => by
      rw [e, List.append_nil] at hw
      rw [List.append_nil]; exact hA w hw y hy⟩
  | x :: B, A, order, e, h0, hD, hA => by
    have one : ∃ added, upsOf order x = order ++ added ∧ Runs (rowsL ws) order added ∧ ∀ y, y <+: x.2 → y ∈ order ++ added := by
      obtain ⟨d, l⟩ := x
      cases d with
      | true => exact ⟨[], by rw [upsOf_down rfl]; simp, trivial, fun y hy => by rw [List.append_nil]; exact hD l (by rw [e]; simp) y hy⟩
      | false =>
        obtain ⟨added, h1, h2, h3⟩ := up_one e rfl order h0 hD hA l.length (Nat.le_refl _)
        exact ⟨added, h1, h2, fun y hy => pre_take hy ▸ h3 _ hy.length_le⟩
    obtain ⟨added, h1, h2, h3⟩ := one
    have sub : ∀ {y}, y ∈ order → y ∈ order ++ added := fun h => List.mem_append_left _ h
    obtain ⟨more, g1, g2, g3⟩ := ups_all B (A ++ [x]) (order ++ added) (by rw [e]; simp) (sub h0) (fun d hd y hy => sub (hD d hd y hy)) (fun w hw y hy => by
      rcases List.mem_append.mp hw with hw | hw
      · exact sub (hA w hw y hy)
      · rw [List.mem_singleton.mp hw] at hy; exact h3 y hy)
    refine ⟨added ++ more, ?_, h2.append g2, by rw [← List.append_assoc]; exact g3⟩
    have : orderU (x :: B) order = orderU B (upsOf order x) := rfl
    rw [this, h1, g1, List.append_assoc]

theorem law_some {ws : List (Bool × List Nat)} (hne : ws ≠ []) (hc : clashL ws = []) : Merges (rowsL ws) (some (orderU ws (orderD (keptL (dns ws)) ++ [[]]))) := by
  rw [orderD_od]
  have r1 : Runs (rowsL ws) [] (od (keptL (dns ws))) := runs_of (fun E x rest h => phase1 hc h) _ [] rfl
  have r2 : Runs (rowsL ws) [] (od (keptL (dns ws)) ++ [[]]) := r1.append ⟨by rw [List.nil_append]; exact phase2 hne, trivial⟩
  obtain ⟨added, h1, h2, h3⟩ := ups_all (ws := ws) ws [] (od (keptL (dns ws)) ++ [[]]) rfl (by simp) (fun d hd y hy => by
    by_cases h : y = []
    · simp [h]
    · exact List.mem_append_left _ (downs_in hd hy h)) (by simp)
  rw [h1]
  have := (r2.append (by rw [List.nil_append]; exact h2)).merges fun r hr y hy => by
    rw [List.nil_append]
    unfold rowsL at hr
    rcases List.mem_cons.mp hr with rfl | hr
    · cases hy
    · obtain ⟨w, hw, rfl⟩ := List.mem_map.mp hr
      exact h3 w hw y (mem_rowOf.mp hy)
  rw [st8_nil] at this
  exact this

theorem law_none {ws : List (Bool × List Nat)} {u d c : List Nat} (hu : (false, u) ∈ ws) (hd : (true, d) ∈ ws) (hcu : c <+: u) (hcd : c <+: d) (hc : c ≠ []) :
    ∀ (n : Nat) (E : List (List Nat)), [] ∉ E → c ∉ E → ((rowsL ws).flatten.filter fun y => decide (y ∉ E)).length ≤ n → Merges (st8 (rowsL ws) E) none := by
  have mr : ∀ {E w}, w ∈ ws → rs E w ∈ st8 (rowsL ws) E := fun {E w} hw => by rw [st8_rows]; exact List.mem_cons_of_mem _ (List.mem_map_of_mem hw)
  intro n
  induction n with
  | zero =>
    intro E h0 hcE hn
    have : ([] : List Nat) ∈ (rowsL ws).flatten.filter fun y => decide (y ∉ E) := by
      refine List.mem_filter.mpr ⟨List.mem_flatten.mpr ⟨rowOf (false, u), by unfold rowsL; exact List.mem_cons_of_mem _ (List.mem_map_of_mem hu), mem_rowOf.mpr List.nil_prefix⟩, by simpa using h0⟩
    have := List.length_pos_of_mem this
    omega
  | succ n ih =>
    intro E h0 hcE hn
    have t0 : [] ∈ (rs E (true, d)).tail := tail_of (rs_pairwise E _) (mem_rs.mpr ⟨List.nil_prefix, h0⟩) (mem_rs.mpr ⟨hcd, hcE⟩) (rel_true.mpr (len_pos hc))
    have t1 : c ∈ (rs E (false, u)).tail := tail_of (rs_pairwise E _) (mem_rs.mpr ⟨hcu, hcE⟩) (mem_rs.mpr ⟨List.nil_prefix, h0⟩) (rel_false.mpr (len_pos hc))
    rcases pick_or (st8 (rowsL ws) E) with ⟨x, hx⟩ | hall
    · have hx' := hx
      obtain ⟨pre, r, post, hR, hh, hg, _⟩ := hx'
      have hx0 : x ≠ [] := fun e => hg _ (mr hd) (e ▸ t0)
      have hxc : x ≠ c := fun e => hg _ (mr hu) (e ▸ t1)
      have hr : r ∈ st8 (rowsL ws) E := by rw [hR]; simp
      have hxm : x ∈ (rowsL ws).flatten.filter fun y => decide (y ∉ E) := by
        unfold st8 at hr
        obtain ⟨r', hr', rfl⟩ := List.mem_map.mp hr
        obtain ⟨a, b⟩ := List.mem_filter.mp (mem_head hh)
        exact List.mem_filter.mpr ⟨List.mem_flatten.mpr ⟨r', hr', a⟩, by simpa using b⟩
      have hlt : ((rowsL ws).flatten.filter fun y => decide (y ∉ E ++ [x])).length < ((rowsL ws).flatten.filter fun y => decide (y ∉ E)).length := by
        have e : ((rowsL ws).flatten.filter fun y => decide (y ∉ E ++ [x])) = ((rowsL ws).flatten.filter fun y => decide (y ∉ E)).filter fun y => decide (y ≠ x) := by
          rw [List.filter_filter]
          apply List.filter_congr
          intro y _
          by_cases h1 : y ∈ E <;> by_cases h2 : y = x <;> simp [h1, h2]
        rw [e]
        exact List.length_filter_lt_length_iff_exists.mpr ⟨x, hxm, by simp⟩
      have := Pick.step hx (ih (E ++ [x]) (by simp [h0, Ne.symm hx0]) (by simp [hcE, Ne.symm hxc]) (by omega))
      exact this
    · refine .bad (fun q => ?_) fun r hr x hx => ?_
      · have := mem_filter_ne (mr (E := E) hu) (List.mem_of_mem_tail t1)
        rw [q] at this; cases this
      · obtain ⟨b, hb, hxb⟩ := hall r (List.mem_filter.mp hr).1 x hx
        exact ⟨b, mem_filter_ne hb (List.mem_of_mem_tail hxb), hxb⟩

theorem law {ws : List (Bool × List Nat)} (hne : ws ≠ []) : Merges (rowsL ws) (dueL ws) := by
  unfold dueL
  by_cases hc : clashL ws = []
  · rw [if_neg (by simpa using hc)]
    exact law_some hne hc
  · rw [if_pos hc]
    obtain ⟨u, d, c, h1, h2, h3, h4, h5⟩ := clash_some hc
    have := law_none h1 h2 h3 h4 h5 _ [] (by simp) (by simp) (Nat.le_refl _)
    rw [st8_nil] at this
    exact this

theorem pure_law (ns : List Int) : ∀ o, Merges ((rowsL (waysL ns)).map (·.map S)) o → o = (dueL (waysL ns)).map (·.map S) := by
  intro o h
  obtain ⟨o₀, h₀, rfl⟩ := h.of_map (f := S) (fun _ _ e => S_inj e) (R := rowsL (waysL ns)) rfl
  have hne : waysL ns ≠ [] := by unfold waysL; simp
  rw [h₀.det (law hne)]
end Mine

namespace Mine


theorem fn_of {K : Frag} {h : Heap} (X : K.In h) {f : Addr} {oc : Value} {od : Option Addr} {osl : Array (Option Value)} {fd : FuncData} {body : List Stmt} {scope : Scope} {par : Str}
    (ho : K.lookup f = some ⟨oc, od, .func fd, osl⟩) (hcd : codeIn K fd.code fd.qualname = true) (hb : fd.body = .stmts body) (hs : fd.scope = scope) (hg : fd.globals = mainGlobals) (hbu : fd.builtins = builtinsNs) (hc : fd.closure = [])
    (hbind : ∀ v, bindArgs fd ⟨[v], []⟩ = pure [(par, v)]) : FnAt h f body scope par :=
  ⟨_, fd, X _ _ ho, rfl, codeRec_of X hcd, hb, hs, hg, hbu, hc, hbind⟩

theorem room_law (env : Env) : (callerA.deeper env).depth < recursionLimit := by rw [depth_deeper, depth_caller]; decide
theorem units_law (env : Env) : (callerA.deeper env).units + 3 < cLine := by show 4 + 3 + 3 < cLine; decide
theorem lookup_one {x n : Str} {a c : Addr} (h : [(x, a)].lookup n = some c) : n = x ∧ c = a := by
  rw [List.lookup_cons] at h
  cases e : n == x with
  | true => rw [e] at h; cases h; exact ⟨by simpa using e, rfl⟩
  | false => rw [e] at h; cases h
theorem lawEnv_of {env : Env} (hsc : env.scope = lawScope) (hgl : env.globals = mainGlobals) (hbu : env.builtins = builtinsNs) (hfr : env.frame = some env.locals) (hce : env.cells = [(Str.ofString "way", env.locals + 1)]) : LawEnv env := by
  refine ⟨⟨by rw [hsc]; rfl, fun n n' c h h' => ?_, fun n c h => ?_⟩, hsc, hgl, hbu, hfr, hce⟩
  · rw [hce] at h h'
    rw [(lookup_one h).1, (lookup_one h').1]
  · rw [hce] at h
    rw [(lookup_one h).2]
    exact Nat.ne_of_gt (Nat.lt_succ_self _)
theorem cell_one {env : Env} {h : Heap} {cm : Str → Option Value} {a : Addr} {x : Str} (hce : env.cells = [(x, a)]) (hc : h.IsCell a (cm x)) : ∀ n c, env.cells.lookup n = some c → h.IsCell c (cm n) := by
  intro n c e
  rw [hce] at e
  obtain ⟨rfl, rfl⟩ := lookup_one e
  exact hc
theorem own_new {env : Env} {h : Heap} {x : Str} (hl : env.locals = h.objs.size) (hce : env.cells = [(x, h.objs.size + 1)]) : ∀ b, Own env b → h.get? b = none := by
  rintro b (rfl | ⟨n, e⟩)
  · exact Heap.get?_none_of_le (Nat.le_of_eq hl.symm)
  · rw [hce] at e
    rw [(lookup_one e).2]
    exact Heap.get?_none_of_le (Nat.le_succ _)
end Mine

open Mine in
set_option maxHeartbeats 8000000 in
theorem PySem.Challenge.cw_oc0008_01_holds : PySem.Challenge.rw_oc0008_01.Holds := by
  refine hd ?_
  k_go0
  rename (Frag.In _ _) => KX
  rename (Top _ _ _ _ _ _) => T
  rename (Fr _ _ _ _) => F
  rename (News _ _ _ _) => N0
  rename (IntsAre _ _) => hI
  rename (Heap.IsList _ _ _) => hL
  rename (¬ _ < _) => hc
  rename (Shared.gens _ = _) => hg
  rename (_ = Data.cell _) => hcell
  have Gd' : Gd _ _ _ := {
    g := T.g
    b := T.b
    lim := T.nolimit
    range0 := mg_none_of KX T.g (by k_is)
    range := (T.builtins _ (by decide)).trans (by kernel_rfl)
    len0 := mg_none_of KX T.g (by k_is)
    len := (T.builtins _ (by decide)).trans (by kernel_rfl)
    str0 := mg_none_of KX T.g (by k_is)
    str := (T.builtins _ (by decide)).trans (by kernel_rfl)
    re0 := mg_none_of KX T.g (by k_is)
    re := (T.builtins _ (by decide)).trans (by kernel_rfl) }
  have Pf : Fns _ _ := {
    way := fn_of KX (by k_is) (by k_is) rfl rfl rfl rfl rfl (fun _ => rfl)
    due := fn_of KX (by k_is) (by k_is) rfl rfl rfl rfl rfl (fun _ => rfl)
    merge := fn_of KX (by k_is) (by k_is) rfl rfl rfl rfl rfl (fun _ => rfl)
    gway := mg_of KX T.g (by k_is)
    gdue := mg_of KX T.g (by k_is)
    gmerge := mg_of KX T.g (by k_is) }
  refine law_walk rfl (room_law _) (units_law _) rfl (lawEnv_of rfl rfl rfl rfl rfl) ⟨F.ns, cell_one rfl ⟨_, (N0 _ (List.mem_singleton.mpr rfl)).1, hcell⟩⟩ Gd' Pf F.keep (own_new rfl rfl) rfl (hL.at fun o e => F.keep _ o e) (Ints.of hI) ?_ (pure_law _) ?_
  · have := hI.length
    omega
  · intro h' tk m' ka hn
    refine goodW_bool (L := _) (m := m') ⟨hn, ka, Nat.le_refl _⟩ hg (fun _ => rfl) ?_
    wrow_post
