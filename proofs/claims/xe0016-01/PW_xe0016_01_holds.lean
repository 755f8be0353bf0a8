import PyProof.Rows.All
import Wide.All
import OpenK.AllK
import Wide.FinOn
import Lean
import PySem.Challenge.RW_xe0016_01
set_option Elab.async false
set_option linter.all false
section
open PySem PySem.W PyProof.Rows
namespace Mine
set_option maxRecDepth 100000 in
set_option maxHeartbeats 8000000 in
open_top hd for PySem.Challenge.rw_xe0016_01
end Mine
end

section
open PySem PySem.W PySem.Calls PyProof.Rows
namespace Mine
set_option maxRecDepth 100000
abbrev lst (ys : List Value) : Obj := LCg.lst ys
section
variable {prog : Program} {w : World} {A : Around}

/-- the loop of a comprehension, whatever its target and its tests -/
theorem comp_loop {elt target iter : Expr} {ifs : List Expr} {scope : Scope} {pos : Pos} {it acc : Value} {env : Env} {R : Result → Shared → Prop} {s : Shared} (I : Nat → Shared → Prop)
    (turn : ∀ n s, I n s → wpAny (model prog w) A (pyNext it) (fun r s₁ => match r with
      | none => R (.ok .next) s₁
      | some v => wpAny (model prog w) A (letOwnedTupleGo target it v) (fun _ s₀ => wpAny (model prog w) A (assign target env v) (fun _ s₂ =>
          wpAny (model prog w) A (forIn ifs true fun c r => if r = true then do let ok ← isTrue c env (eval c env); pure (ForInStep.yield ok) else pure (ForInStep.yield r)) (fun ok s₃ =>
            if ok = true then wpAny (model prog w) A (eval elt env) (fun x s₄ =>
              wpAny (model prog w) A (call (.builtin "list.append") [acc, x]) (fun _ s₅ => ∃ m, m < n ∧ I m s₅) (notedBy (model prog w) A env fun e s' => R (.error e) s') s₄) (notedBy (model prog w) A env fun e s' => R (.error e) s') s₃
            else ∃ m, m < n ∧ I m s₃) (notedBy (model prog w) A env fun e s' => R (.error e) s') s₂)
          (notedBy (model prog w) A env fun e s' => R (.error e) s') s₀) (notedBy (model prog w) A env fun e s' => R (.error e) s') s₁) (notedBy (model prog w) A env fun e s' => R (.error e) s') s)
    (n : Nat) (h : I n s) : codeAny (model prog w) A (.compLoop (.ListComp elt [⟨target, iter, ifs, 0⟩] scope pos) 0 it acc env) R s := by
  refine codeAny_loop rfl I (fun n s hI => ?_) n h
  show wpAny _ A ((compTurn (.ListComp elt [⟨target, iter, ifs, 0⟩] scope pos) 0 it acc env).onRaise (fun x => do noteFrame x env; theTreesLotGoes x)) _ _ s
  refine wpAny_noted ?_
  rw [compTurn_list]
  refine wpAny_bind (wpAny_standAt (wpAny_bind (wpAny_mono (turn n s hI) (fun r s₁ h₁ => ?_) fun _ _ h' => h')))
  cases r with
  | none => exact wpAny_pure h₁
  | some v =>
    refine wpAny_bind (wpAny_mono h₁ (fun _ s₀ h₀ => ?_) fun _ _ h' => h')
    refine wpAny_bind (wpAny_mono h₀ (fun _ s₂ h₂ => ?_) fun _ _ h' => h')
    refine wpAny_bind (wpAny_mono h₂ (fun ok s₃ h₃ => ?_) fun _ _ h' => h')
    cases ok with
    | false => exact wpAny_pure ⟨rfl, h₃⟩
    | true => exact wpAny_bind (wpAny_bind (wpAny_mono h₃ (fun x s₄ h₄ => wpAny_bind (wpAny_mono h₄ (fun _ s₅ h₅ => wpAny_pure (wpAny_pure ⟨rfl, h₅⟩)) fun _ _ h' => h')) fun _ _ h' => h'))

theorem neLt {a b : Nat} (h : a < b) : a ≠ b := Nat.ne_of_lt h
theorem neGt {a b : Nat} (h : b < a) : a ≠ b := Nat.ne_of_gt h
theorem notLt {a b : Nat} (h : a < b) (k : b ≤ a) : False := by omega
/-- what a turn leaves: all but the block's own frame C and its k cells stands -/
def CEnd (C k : Nat) (s : Shared) (h : Heap) (K : Heap → Prop) (s' : Shared) : Prop :=
  ∃ h' tk' m', s' = { s with heap := h', toks := tk' } ∧ h'.Ns C m' ∧ (∀ j, j < k → ∃ v, h'.IsCell (C + 1 + j) v) ∧ (∀ b o, b < C ∨ C + k < b → h.get? b = some o → h'.get? b = some o) ∧ K h'

theorem comp_core {elt target iter : Expr} {ifs : List Expr} {scope : Scope} {pos : Pos} {env : Env} {R : Result → Shared → Prop} {s₂ : Shared} {I D C k : Nat} {fp wr : List Addr} {n : Nat} {P Md : Nat → Value → Heap → Prop} {St : Nat → Heap → Prop}
    (J : Nat → List Value → Heap → Prop) (W : KTurns prog w A target I fp wr n P Md St) (hsz : n ≤ sizeLine) (h₁ : Heap) (tk₁ : Nat)
    (hD : D = s₂.heap.objs.size) (hC : C = s₂.heap.objs.size + 1) (hfp : ∀ b ∈ fp, b < s₂.heap.objs.size)
    (hst : St 0 h₁) (hacc : h₁.get? D = some (lst [])) (hns : h₁.Ns C fun _ => none) (hcells : ∀ j, j < k → h₁.IsCell (C + 1 + j) none) (hold : ∀ b o, s₂.heap.get? b = some o → h₁.get? b = some o) (hJ0 : J 0 [] h₁)
    (hJm : ∀ i ys h h', (∀ b o, C + k < b → h.get? b = some o → h'.get? b = some o) → J i ys h → J i ys h')
    (turn : ∀ i v ys m₂ h tk (E' : Value → Shared → Prop), i < n → P i v h → J i ys h → ys.length ≤ i → h.Ns C m₂ → (∀ j, j < k → ∃ v, h.IsCell (C + 1 + j) v) → (∀ b o, b ∉ wr → s₂.heap.get? b = some o → h.get? b = some o) →
      wpAny (model prog w) A (assign target env v) (fun _ s₃ =>
        wpAny (model prog w) A (forIn ifs true fun c r => if r = true then do let ok ← isTrue c env (eval c env); pure (ForInStep.yield ok) else pure (ForInStep.yield r)) (fun ok s₄ =>
          if ok = true then wpAny (model prog w) A (eval elt env) (fun y s₅ => CEnd C k s₂ h (J (i + 1) (ys ++ [y])) s₅) E' s₄
          else CEnd C k s₂ h (J (i + 1) ys) s₄) E' s₃) E' { s₂ with heap := h, toks := tk })
    (done : ∀ ys m h tk, h.Ns C m → h.get? D = some (lst ys) → (∀ b o, b ∉ wr → s₂.heap.get? b = some o → h.get? b = some o) → J n ys h → R (.ok .next) { s₂ with heap := h, toks := tk }) :
    codeAny (model prog w) A (.compLoop (.ListComp elt [⟨target, iter, ifs, 0⟩] scope pos) 0 (.ref I) (.ref D) env) R { s₂ with heap := h₁, toks := tk₁ } := by
  have hDfp : D ∉ fp := fun hm => notLt (hfp _ hm) (Nat.le_of_eq hD.symm)
  have hfp' : ∀ b : Nat, b ∈ fp → b < s₂.heap.objs.size := hfp
  have hwlt : ∀ b : Nat, b ∈ wr → b < s₂.heap.objs.size := fun b hb => hfp b (W.sub b hb)
  refine comp_loop
    (fun q s' => ∃ h' tk' i ys m', s' = { s₂ with heap := h', toks := tk' } ∧ i ≤ n ∧ q = n + 1 - i ∧ ys.length ≤ i ∧ St i h' ∧ h'.get? D = some (lst ys) ∧ h'.Ns C m' ∧ (∀ j, j < k → ∃ v, h'.IsCell (C + 1 + j) v) ∧
      (∀ b o, b ∉ wr → s₂.heap.get? b = some o → h'.get? b = some o) ∧ J i ys h') ?_ (n + 1)
    ⟨h₁, _, 0, [], _, rfl, Nat.zero_le _, rfl, Nat.le_refl _, hst, hacc, hns, fun j hj => ⟨_, hcells j hj⟩, fun b o _ e => hold b o e, hJ0⟩
  rintro q s' ⟨h', tk', i, ys, m', rfl, hi, rfl, hyl, hst', hD', hn', hc', ho', hJ'⟩
  -- a change within wr alone
  have next : ∀ g : Heap, (∀ b o, b ∉ wr → h'.get? b = some o → g.get? b = some o) → g.get? D = some (lst ys) ∧ g.Ns C m' ∧ (∀ j, j < k → ∃ v, g.IsCell (C + 1 + j) v) ∧ (∀ b o, b ∉ wr → s₂.heap.get? b = some o → g.get? b = some o) ∧ J i ys g := by
    intro g hk
    refine ⟨hk _ _ (fun hm => notLt (hwlt _ hm) (Nat.le_of_eq hD.symm)) hD', hn'.at' fun o e => hk _ o (fun hm => notLt (hwlt _ hm) (by omega)) e, fun j hj => ?_, fun b o hb e => hk b o hb (ho' b o hb e), hJm _ _ _ _ (fun (b : Nat) o hb e => hk b o (fun hm => notLt (hwlt b hm) (by omega)) e) hJ'⟩
    obtain ⟨v, o, e, d⟩ := hc' j hj
    exact ⟨v, o, hk _ o (fun hm => notLt (hwlt _ hm) (by omega)) e, d⟩
  by_cases hlt : i < n
  · refine W.item i _ _ _ hlt hst' fun v h₂ tk₂ hMd hk₂ => ?_
    refine W.go i v _ _ _ hMd fun h₃ hP hst₃ hk₃ => ?_
    obtain ⟨a1, a2, a3, a4, a5⟩ := next h₃ fun b o hb e => hk₃ b o hb (hk₂ b o hb e)
    have key : ∀ (K : Heap → Prop) s₅, CEnd C k s₂ h₃ K s₅ → ∃ h₅ tk₅ m₅, s₅ = { s₂ with heap := h₅, toks := tk₅ } ∧ St (i + 1) h₅ ∧ h₅.get? D = some (lst ys) ∧ h₅.Ns C m₅ ∧ (∀ j, j < k → ∃ v, h₅.IsCell (C + 1 + j) v) ∧ (∀ b o, b ∉ wr → s₂.heap.get? b = some o → h₅.get? b = some o) ∧ K h₅ := by
      rintro K s₅ ⟨h₅, tk₅, m₅, rfl, hn₅, hc₅, hk₅, hK⟩
      refine ⟨h₅, tk₅, m₅, rfl, W.frame _ _ _ hst₃ fun (b : Nat) hb o e => hk₅ b o (.inl (by have := hfp' b hb; omega)) e, hk₅ _ _ (.inl (by omega)) a1, hn₅, hc₅, fun (b : Nat) o hb e => hk₅ b o (.inl (by have : b < s₂.heap.objs.size := Heap.lt_size e; omega)) (a4 b o hb e), hK⟩
    refine wpAny_mono (turn i v ys m' h₃ tk₂ _ hlt hP a5 hyl a2 a3 a4) (fun _ s₃ t₃ => wpAny_mono t₃ (fun ok s₄ t₄ => ?_) fun _ _ e => e) fun _ _ e => e
    cases ok with
    | false =>
      obtain ⟨h₅, tk₅, m₅, rfl, b1, b2, b3, b4, b5, b6⟩ := key _ _ t₄
      exact ⟨n + 1 - (i + 1), by omega, h₅, tk₅, i + 1, ys, m₅, rfl, hlt, rfl, Nat.le_succ_of_le hyl, b1, b2, b3, b4, b5, b6⟩
    | true =>
      refine wpAny_mono t₄ (fun y s₅ t₅ => ?_) fun _ _ e => e
      obtain ⟨h₅, tk₅, m₅, rfl, b1, b2, b3, b4, b5, b6⟩ := key _ _ t₅
      refine append_at (hsz := by show ys.toArray.size ≤ sizeLine; rw [List.size_toArray]; omega) b2 fun h₆ hs₆ hD₆ => ?_
      have up : ∀ b o, b ≠ D → h₅.get? b = some o → h₆.get? b = some o := fun b o hb e => hs₆.extBut b o hb e
      refine ⟨n + 1 - (i + 1), by omega, h₆, tk₅, i + 1, ys ++ [y], m₅, rfl, hlt, rfl, by rw [List.length_append, List.length_singleton]; omega, W.frame _ _ _ b1 fun b hb o e => up b o (fun q => hDfp (q ▸ hb)) e, hD₆.trans (congrArg some (LCg.lst_snoc ys y)),
        b3.at' fun o e => up _ o (neGt (by omega)) e, fun j hj => ?_, fun (b : Nat) o hb e => up b o (neLt (by have : b < s₂.heap.objs.size := Heap.lt_size e; omega)) (b5 b o hb e), hJm _ _ _ _ (fun (b : Nat) o hb e => up b o (neGt (by omega)) e) b6⟩
      obtain ⟨v, o, e, d⟩ := b4 j hj
      exact ⟨v, o, up _ o (neGt (by omega)) e, d⟩
  · obtain rfl : i = n := Nat.le_antisymm hi (Nat.not_lt.mp hlt)
    refine W.done _ _ _ hst' fun h₂ tk₂ hk₂ => ?_
    obtain ⟨a1, a2, a3, a4, a5⟩ := next h₂ hk₂
    exact done ys m' h₂ tk₂ a2 a1 a4 a5
end
end Mine
end

section
open PySem PySem.W PySem.Calls PyProof.Rows
namespace Mine
set_option maxRecDepth 100000
abbrev Ext (h h' : Heap) : Prop := ∀ b o, h.get? b = some o → h'.get? b = some o

abbrev cenvOf (scope : Scope) (env : Env) (C : Addr) (cells : List (Str × Addr)) : Env :=
  { scope := scope, locals := C, globals := env.globals, cells := cells, qual := env.qual, func := none, code := env.code, frame := env.frame, builtins := env.builtins }

/-- how the block's own frame is laid: k cells of its own -/
def FeOk (M : Model) (A : Around) (scope : Scope) (env : Env) (cl : List (Str × Addr)) (k : Nat) (cellsOf : Addr → List (Str × Addr)) : Prop :=
  ∀ (s : Shared) (Q : Env → Shared → Prop) (E : Value → Shared → Prop),
    (∀ h' tk', h'.Ns s.heap.objs.size (fun _ => none) → (∀ j, j < k → h'.IsCell (s.heap.objs.size + 1 + j) none) → Ext s.heap h' → Q (cenvOf scope env s.heap.objs.size (cellsOf s.heap.objs.size)) { s with heap := h', toks := tk' }) →
    wpAny M A (newFunctionEnv scope env.globals cl [] env.qual none .none (some env)) Q E s

theorem feOk_plain {M : Model} {A : Around} {scope : Scope} {env : Env} {cl : List (Str × Addr)} (hc : ∀ x ∈ scope.names, x.2 ≠ .cell) (hk : scope.kind = .function) : FeOk M A scope env cl 0 fun _ => cl := by
  intro s Q E h
  refine wpAny_newFunctionEnv hc (by intro y hy; simp at hy) (fun h₁ hns hsb => ?_) hk
  refine h h₁ _ hns (fun j hj => absurd hj (Nat.not_lt_zero _)) fun b o e => hsb.extBut b o (Nat.ne_of_lt (Heap.lt_size e)) (Heap.get?_push_of_some _ e)

section
variable {prog : Program} {w : World} {A : Around} {E : Value → Shared → Prop} {s : Shared}

/-- the source of a block: the iterator that stands at I -/
def CSrc (prog : Program) (w : World) (A : Around) (target : Expr) (it : Value) (s₂ : Shared) (K : (I : Addr) → (wr : List Addr) → (n : Nat) → (P : Nat → Value → Heap → Prop) → Prop) : Prop :=
  ∃ (I : Addr) (fp wr : List Addr) (n : Nat) (P Md : Nat → Value → Heap → Prop) (St : Nat → Heap → Prop), it = .ref I ∧ KTurns prog w A target I fp wr n P Md St ∧ n ≤ sizeLine ∧ St 0 s₂.heap ∧ (∀ b ∈ fp, b < s₂.heap.objs.size) ∧
    (∀ h tk (Q : Value → Shared → Prop) (E' : Value → Shared → Prop), St 0 h → Q (.ref I) { s₂ with heap := h, toks := tk } → wpAny (model prog w) A (pyIter (.ref I)) Q E' { s₂ with heap := h, toks := tk }) ∧ K I wr n P

theorem comp_gen {elt target iter : Expr} {ifs : List Expr} {scope : Scope} {cl : List (Str × Addr)} {pos p0 : Pos} {env : Env} {use : Option (Value → Sem Unit)} {Q : Value → Shared → Prop} (k : Nat) (cellsOf : Addr → List (Str × Addr)) (J : Addr → Nat → List Value → Heap → Prop)
    (hclos : closureFor scope env = pure cl) (hkind : scope.kind = .function) (hnames : ∀ z ∈ scope.names, z.2 = .local → scope.names.lookup z.1 = some .local)
    (hs : ∀ x, foldedSetIterable iter env x = pure x) (hfe : FeOk (model prog w) A scope env cl k cellsOf)
    (hJ0 : ∀ C h, J C 0 [] h) (hJm : ∀ C i ys h h', (∀ b o, C + k < b → h.get? b = some o → h'.get? b = some o) → J C i ys h → J C i ys h')
    (h : wpAny (model prog w) A (eval iter env) (fun xv s₁ => wpAny (model prog w) A (pyIter xv) (fun it s₂ => CSrc prog w A target it s₂ fun _ wr n P =>
      (∀ C i v ys m₂ h tk (E' : Value → Shared → Prop), C = s₂.heap.objs.size + 1 → i < n → P i v h → J C i ys h → ys.length ≤ i → h.Ns C m₂ → (∀ j, j < k → ∃ v, h.IsCell (C + 1 + j) v) → (∀ b o, b ∉ wr → s₂.heap.get? b = some o → h.get? b = some o) →
        wpAny (model prog w) A (assign target (cenvOf (relabel scope env) env C (cellsOf C)) v) (fun _ s₃ =>
          wpAny (model prog w) A (forIn ifs true fun c r => if r = true then do let ok ← isTrue c (cenvOf (relabel scope env) env C (cellsOf C)) (eval c (cenvOf (relabel scope env) env C (cellsOf C))); pure (ForInStep.yield ok) else pure (ForInStep.yield r)) (fun ok s₄ =>
            if ok = true then wpAny (model prog w) A (eval elt (cenvOf (relabel scope env) env C (cellsOf C))) (fun y s₅ => CEnd C k s₂ h (J C (i + 1) (ys ++ [y])) s₅) E' s₄
            else CEnd C k s₂ h (J C (i + 1) ys) s₄) E' s₃) E' { s₂ with heap := h, toks := tk }) ∧
      (∀ D C ys m h tk, D = s₂.heap.objs.size → C = s₂.heap.objs.size + 1 → h.Ns C m → h.get? D = some (lst ys) → (∀ b o, b ∉ wr → s₂.heap.get? b = some o → h.get? b = some o) → J C n ys h →
        compPost (model prog w) A E use Q (.ref D) C (.ok .next) { s₂ with heap := h, toks := tk })) E s₁) E s) :
    wpAny (model prog w) A (comprehension (.ListComp elt [⟨target, iter, ifs, 0⟩] scope pos) scope env p0 (newList []) false (eval iter env) use) Q E s := by
  refine wpAny_comprehension_free rfl hs hclos hkind hnames (wpAny_mono h (fun xv s₁ h₁ => wpAny_mono h₁ (fun it s₂ h₂ => ?_) fun _ _ e => e) fun _ _ e => e)
  obtain ⟨I, fp, wr, n, P, Md, St, rfl, W, hsz, hst, hfp, hself, turn, done⟩ := h₂
  refine wpAny_newObj_type (hfe _ _ _ fun h₁ tk₁ hns hcells hext => ?_)
  have hsz1 : (s₂.heap.push { cls := .type "list", data := .seq ([] : List Value).toArray }).objs.size = s₂.heap.objs.size + 1 := Heap.size_push ..
  dsimp only at hns hcells hext ⊢
  rw [hsz1] at hns hcells
  rw [hsz1]
  have hold : ∀ b o, s₂.heap.get? b = some o → h₁.get? b = some o := fun b o e => hext b o (Heap.get?_push_of_some _ e)
  have hacc : h₁.get? s₂.heap.objs.size = some (lst []) := hext _ _ (Heap.get?_push_size _ rfl)
  have hst₁ : St 0 h₁ := W.frame _ _ _ hst fun b _ o e => hold b o e
  have loop := comp_core (elt := elt) (iter := iter) (ifs := ifs) (scope := scope) (pos := pos) (env := cenvOf (relabel scope env) env (s₂.heap.objs.size + 1) (cellsOf (s₂.heap.objs.size + 1)))
    (R := compPost (model prog w) A E use Q (.ref s₂.heap.objs.size) (s₂.heap.objs.size + 1)) (D := s₂.heap.objs.size) (C := s₂.heap.objs.size + 1) (k := k) (J (s₂.heap.objs.size + 1)) W hsz h₁ tk₁ rfl rfl hfp hst₁ hacc hns hcells hold (hJ0 _ _) (hJm _)
    (fun i v ys m₂ h tk E' a b c d e f g => turn _ i v ys m₂ h tk E' rfl a b c d e f g) (fun ys m h tk a b c d => done _ _ ys m h tk rfl rfl a b c d)
  exact codeAny_compStart_list loop (hself _ _ _ _ hst₁ loop)

/-- a list as the source -/
theorem cSrc_list {target : Expr} {ax : Addr} {its : Array Value} {K : (I : Addr) → (wr : List Addr) → (n : Nat) → (P : Nat → Value → Heap → Prop) → Prop} (hh : A.handled = none) (hl : s.heap.IsList ax its) (hsz : its.size ≤ sizeLine)
    (ht : ∀ it v, letOwnedTupleGo target it v = pure ()) (h : K s.heap.objs.size [s.heap.objs.size] its.size (fun i v _ => its[i]? = some v)) :
    wpAny (model prog w) A (pyIter (.ref ax)) (fun it s₂ => CSrc prog w A target it s₂ K) E s := by
  have hlt : ax < s.heap.objs.size := by obtain ⟨_, e, _⟩ := hl; exact Heap.lt_size e
  refine wpAny_pyIter_list hl ?_
  have W := Walks.list (prog := prog) (w := w) hh s.heap.objs.size ax (Nat.ne_of_lt hlt) its
  refine ⟨_, _, _, _, _, _, _, rfl, KTurns.ofWalks W (fun i v s' Q E' _ hq => by rw [ht]; exact wpAny_pure hq), hsz, ⟨⟨_, Heap.get?_push_size _ rfl, rfl, rfl⟩, hl.push _⟩, fun b hb => ?_, fun h' tk Q E' st hq => W.self 0 _ _ _ st hq, h⟩
  show b < (s.heap.push _).objs.size
  rw [Heap.size_push]
  rcases List.mem_cons.mp hb with rfl | hb
  · exact Nat.lt_succ_self _
  · rw [List.mem_singleton.mp hb]; exact Nat.lt_succ_of_lt hlt

/-- a range as the source -/
theorem cSrc_range {target : Expr} {r : Addr} {a b : Int} {t u v : Tok} {n : Nat} {K : (I : Addr) → (wr : List Addr) → (n : Nat) → (P : Nat → Value → Heap → Prop) → Prop} (hh : A.handled = none) (hr : IsRange s.heap r a b 1 t u v) (hsm : Builtin.Range.small a b 1 = true) (hn : Builtin.Range.rangeSize a b 1 = ((n : Nat) : Int)) (hsz : n ≤ sizeLine)
    (ht : ∀ it v, letOwnedTupleGo target it v = pure ()) (h : K s.heap.objs.size [s.heap.objs.size] n (fun i v _ => ∃ t, v = .int (a + (i : Int)) t)) :
    wpAny (model prog w) A (pyIter (.ref r)) (fun it s₂ => CSrc prog w A target it s₂ K) E s := by
  refine wpAny_pyIter_range hr hsm ?_
  have W := LCg.range_walks (prog := prog) (w := w) (I := s.heap.objs.size) hh a n
  refine ⟨_, _, _, _, _, _, _, rfl, KTurns.ofWalks W (fun i v s' Q E' _ hq => by rw [ht]; exact wpAny_pure hq), hsz, (by show IsRangeIter _ _ _ _ _; rw [hn]; simpa using Heap.get?_push_size _ rfl), fun b hb => ?_, fun h' tk Q E' st hq => W.self 0 _ _ _ st hq, h⟩
  rw [List.mem_singleton.mp hb]
  show s.heap.objs.size < (s.heap.push _).objs.size
  rw [Heap.size_push]; exact Nat.lt_succ_self _

/-- enumerate over a list as the source -/
theorem cSrc_enum {elts : List Expr} {kk : Nat} {tp : Pos} {l : Addr} {its : Array Value} {K : (I : Addr) → (wr : List Addr) → (n : Nat) → (P : Nat → Value → Heap → Prop) → Prop} (hh : A.handled = none) (hl : s.heap.IsList l its) (hsz : its.size ≤ sizeLine)
    (h : ∀ h', Ext s.heap h' → s.heap.objs.size + 2 = h'.objs.size → K (s.heap.objs.size + 1) [s.heap.objs.size + 1, s.heap.objs.size] its.size (fun i v h => ∃ T t x, v = .ref T ∧ its[i]? = some x ∧ h.IsTuple T #[.int i t, x])) :
    wpAny (model prog w) A (call (.type "enumerate") [.ref l]) (fun xv s₁ => wpAny (model prog w) A (pyIter xv) (fun it s₂ => CSrc prog w A (.Tuple elts kk tp) it s₂ K ∧ Ext s.heap s₂.heap ∧ ∃ h', s₂ = { s with heap := h' }) E s₁) E s := by
  have hlt : l < s.heap.objs.size := by obtain ⟨_, e, _⟩ := hl; exact Heap.lt_size e
  refine call_enumerate_list hl fun h' hE hI hsz2 hk => ?_
  refine wpAny_pyIter_enum hE ?_
  have W := (WalksT.enumerate (prog := prog) (w := w) (A := A) hh (s.heap.objs.size + 1) s.heap.objs.size l (Nat.succ_ne_self _) (Nat.ne_of_lt (Nat.lt_succ_of_lt hlt)) (Nat.ne_of_lt hlt) its)
  refine ⟨⟨_, _, _, _, _, _, _, rfl, KTurns.ofWalksU (elts := elts) (k := kk) (pos := tp) W.toU, hsz, ⟨⟨.none, hE⟩, hI, hl.at fun o e => hk l o e⟩, fun b hb => ?_, fun g tk Q E' st hq => W.self 0 _ _ _ st hq, ?_⟩, hk, _, rfl⟩
  · show b < h'.objs.size
    rw [hsz2]
    have hb' : b = s.heap.objs.size + 1 ∨ b = s.heap.objs.size ∨ b = l := by simpa using hb
    rcases hb' with rfl | rfl | rfl
    · exact Nat.lt_succ_self _
    · exact Nat.lt_succ_of_lt (Nat.lt_succ_self _)
    · exact Nat.lt_succ_of_lt (Nat.lt_succ_of_lt hlt)
  · have e : (fun (i : Nat) (v : Value) (h : Heap) => ∃ T vals, v = .ref T ∧ (∃ t x, its[i]? = some x ∧ vals = #[.int i t, x]) ∧ h.IsTuple T vals) = (fun i v h => ∃ T t x, v = .ref T ∧ its[i]? = some x ∧ h.IsTuple T #[.int i t, x]) := by
      funext i v h
      apply propext
      constructor
      · rintro ⟨T, vals, rfl, ⟨t, x, hx, rfl⟩, hT⟩; exact ⟨T, t, x, rfl, hx, hT⟩
      · rintro ⟨T, t, x, rfl, hx, hT⟩; exact ⟨T, _, rfl, ⟨t, x, hx, rfl⟩, hT⟩
    exact e ▸ h h' hk hsz2.symm
end
end Mine
end

section
open PySem PySem.W PySem.Calls PyProof.Rows
namespace Mine
set_option maxRecDepth 100000
/-- the first C objects of a heap -/
def trunc (h : Heap) (C : Nat) : Heap := ⟨h.objs.extract 0 C, h.life⟩
theorem trunc_get {h : Heap} {C b : Nat} : (trunc h C).get? b = if b < C then h.get? b else none := by
  unfold Heap.get? trunc
  by_cases hb : b < C
  · rw [if_pos hb]
    have e : (h.objs.extract 0 C)[b]? = h.objs[b]? := by
      rw [Array.getElem?_extract]
      by_cases hs : b < h.objs.size
      · rw [if_pos (by omega)]; simp
      · rw [if_neg (by omega), Array.getElem?_eq_none (Nat.not_lt.mp hs)]
    rw [e]
  · rw [if_neg hb]
    have e : (h.objs.extract 0 C)[b]? = none := by
      rw [Array.getElem?_extract, if_neg (by omega)]
    rw [e]
def restOf (h : Heap) (C : Nat) : List (Addr × Obj) := (List.range h.objs.size).filterMap fun b => if C < b then (h.get? b).map (fun o => (b, o)) else none
theorem restOf_mem {h : Heap} {C b : Nat} {o : Obj} : (b, o) ∈ restOf h C ↔ C < b ∧ h.get? b = some o := by
  unfold restOf
  rw [List.mem_filterMap]
  constructor
  · rintro ⟨a, _, e⟩
    by_cases ha : C < a
    · rw [if_pos ha] at e
      cases q : h.get? a with
      | none => rw [q] at e; cases e
      | some o' => rw [q] at e; cases e; exact ⟨ha, q⟩
    · rw [if_neg ha] at e; cases e
  · rintro ⟨hb, e⟩
    exact ⟨b, List.mem_range.mpr (Heap.lt_size e), by rw [if_pos hb, e]; rfl⟩
theorem bridge_fr {h : Heap} {C : Nat} {m : Str → Option Value} (hC : h.Ns C m) : Fr (trunc h C) C h m := by
  refine ⟨hC, fun b o e => ?_, ?_⟩
  · rw [trunc_get] at e
    by_cases hb : (b : Nat) < C
    · rw [if_pos hb] at e; exact e
    · rw [if_neg hb] at e; cases e
  · show (h.objs.extract 0 C).size ≤ C
    rw [Array.size_extract]; omega
theorem bridge_news {h : Heap} {C : Nat} : News (trunc h C) C h (restOf h C) := by
  rintro ⟨b, o⟩ hp
  obtain ⟨hb, e⟩ := restOf_mem.mp hp
  exact ⟨e, Nat.ne_of_gt hb, by rw [trunc_get, if_neg (Nat.not_lt.mpr (Nat.le_of_lt hb))]⟩
theorem bridge_low {h : Heap} {C : Nat} : ∀ b o, b < C → h.get? b = some o → (trunc h C).get? b = some o := fun b o hb e => by rw [trunc_get, if_pos hb]; exact e
theorem bridge_back {h h' : Heap} {C : Nat} {m' : Str → Option Value} (F : Fr (trunc h C) C h' m') (N : News (trunc h C) C h' (restOf h C)) : ∀ b o, b < C ∨ C < b → h.get? b = some o → h'.get? b = some o := by
  rintro b o (hb | hb) e
  · exact F.keep b o (bridge_low b o hb e)
  · exact (N (b, o) (restOf_mem.mpr ⟨hb, e⟩)).1

/-- a walked turn's end -/
def WEnd (base : Heap) (C : Nat) (keepL : List (Addr × Obj)) (s : Shared) (K : Heap → Prop) (s' : Shared) : Prop :=
  ∃ h' tk' m', s' = { s with heap := h', toks := tk' } ∧ Fr base C h' m' ∧ News base C h' keepL ∧ K h'
theorem WEnd.intro {base : Heap} {C : Nat} {keepL all : List (Addr × Obj)} {s : Shared} {K : Heap → Prop} {h' : Heap} {tk' : Nat} {m' : Str → Option Value} (F : Fr base C h' m') (N : News base C h' all) (hs : ∀ p ∈ keepL, p ∈ all) (hK : K h') :
    WEnd base C keepL s K { s with heap := h', toks := tk' } := ⟨h', tk', m', rfl, F, fun p hp => N p (hs p hp), hK⟩
section
variable {prog : Program} {w : World} {A : Around} {E : Value → Shared → Prop} {s : Shared}
theorem cend_of_wend {C k : Nat} {h : Heap} {s₂ s₅ : Shared} {K : Heap → Prop} (hc : ∀ j, j < k → ∃ v, h.IsCell (C + 1 + j) v) (x : WEnd (trunc h C) C (restOf h C) s₂ K s₅) : CEnd C k s₂ h K s₅ := by
  obtain ⟨h', tk', m', rfl, F, N, hK⟩ := x
  have back := bridge_back F N
  refine ⟨h', tk', m', rfl, F.ns, fun j hj => ?_, fun (b : Nat) o hb e => back b o (hb.imp id fun q => by omega) e, hK⟩
  obtain ⟨v, o, e, d⟩ := hc j hj
  exact ⟨v, o, back _ o (.inr (by omega)) e, d⟩

theorem ld_comp {base : Heap} {C : Addr} {m₂ : Str → Option Value} {x : Str} {v : Value} {pos : Pos} {scope : Scope} {cl : List (Str × Addr)} {env : Env} {Q : Value → Shared → Prop} {M : Model} (F : Fr base C s.heap m₂) (hv : m₂ x = some v) (h : Q v s)
    (hk : (compEnvC scope cl C env).scope.kind = .function := by rfl) (hl : (compEnvC scope cl C env).kindOf x = some .local := by rfl) (hd : (x == ("__debug__" : Str)) = false := by decide) :
    wpAny M A (eval (.Name x pos) (compEnvC scope cl C env)) Q E s := wpAny_Name (wpAny_loadName_local hk hl F.ns hv h) hd

/-- one name over a list or a range, no cell of its own: the block's value -/
theorem comp_name {elt iter : Expr} {x : Str} {px : Pos} {ifs : List Expr} {scope : Scope} {cl : List (Str × Addr)} {pos p0 : Pos} {env : Env} {use : Option (Value → Sem Unit)} {Q : Value → Shared → Prop} (J : Addr → Nat → List Value → Heap → Prop)
    (hclos : closureFor scope env = pure cl) (hcell : ∀ z ∈ scope.names, z.2 ≠ .cell) (hkind : scope.kind = .function) (hnames : ∀ z ∈ scope.names, z.2 = .local → scope.names.lookup z.1 = some .local) (hx : scope.names.lookup x = some .local)
    (hs : ∀ x, foldedSetIterable iter env x = pure x)
    (hJ0 : ∀ C h, J C 0 [] h) (hJm : ∀ C i ys h h', (∀ b o, C < b → h.get? b = some o → h'.get? b = some o) → J C i ys h → J C i ys h')
    (h : wpAny (model prog w) A (eval iter env) (fun xv s₁ => wpAny (model prog w) A (pyIter xv) (fun it s₂ => CSrc prog w A (.Name x px) it s₂ fun _ wr n P =>
      (∀ C i v ys m₂ h tk base keepL (E' : Value → Shared → Prop), C = s₂.heap.objs.size + 1 → i < n → (∃ h0, P i v h0) → J C i ys h → ys.length ≤ i → m₂ x = some v → Fr base C h m₂ → News base C h keepL → (∀ b o, b ∉ wr → s₂.heap.get? b = some o → base.get? b = some o) → (∀ b o, C < b → h.get? b = some o → (b, o) ∈ keepL) →
          wpAny (model prog w) A (forIn ifs true fun c r => if r = true then do let ok ← isTrue c (compEnvC scope cl C env) (eval c (compEnvC scope cl C env)); pure (ForInStep.yield ok) else pure (ForInStep.yield r)) (fun ok s₄ =>
            if ok = true then wpAny (model prog w) A (eval elt (compEnvC scope cl C env)) (fun y s₅ => WEnd base C keepL s₂ (J C (i + 1) (ys ++ [y])) s₅) E' s₄
            else WEnd base C keepL s₂ (J C (i + 1) ys) s₄) E' { s₂ with heap := h, toks := tk }) ∧
      (∀ D C ys m h tk, D = s₂.heap.objs.size → C = s₂.heap.objs.size + 1 → h.Ns C m → h.get? D = some (lst ys) → (∀ b o, b ∉ wr → s₂.heap.get? b = some o → h.get? b = some o) → J C n ys h →
        compPost (model prog w) A E use Q (.ref D) C (.ok .next) { s₂ with heap := h, toks := tk })) E s₁) E s) :
    wpAny (model prog w) A (comprehension (.ListComp elt [⟨.Name x px, iter, ifs, 0⟩] scope pos) scope env p0 (newList []) false (eval iter env) use) Q E s := by
  refine comp_gen 0 (fun _ => cl) J hclos hkind hnames hs (feOk_plain hcell hkind) hJ0 (fun C i ys h h' hk hj => hJm C i ys h h' (fun b o hb e => hk b o (by simpa using hb) e) hj) (wpAny_mono h (fun xv s₁ h₁ => wpAny_mono h₁ (fun it s₂ h₂ => ?_) fun _ _ e => e) fun _ _ e => e)
  obtain ⟨I, fp, wr, n, P, Md, St, e0, W, hsz, hst, hfp, hself, turn, done⟩ := h₂
  refine ⟨I, fp, wr, n, P, Md, St, e0, W, hsz, hst, hfp, hself, fun C i v ys m₂ h tk E' hC hi hP hJ hyl hn hc ho => ?_, done⟩
  have hp : ((cenvOf (relabel scope env) env C cl).scope.kind == .class || ((cenvOf (relabel scope env) env C cl).scope.kind == .module && (cenvOf (relabel scope env) env C cl).locals != (cenvOf (relabel scope env) env C cl).globals)) = false := by
    simp [cenvOf, relabel, hkind]
  refine wpAny_assign_Name (wpAny_storeName_local (lookup_relabel_local hx) hn (fun h₃ hn₃ hs₃ => ?_) hp)
  have hJ₃ : J C i ys h₃ := hJm _ _ _ _ _ (fun b o hb e => hs₃.extBut b o (Nat.ne_of_gt hb) e) hJ
  have base_ok : ∀ b o, b ∉ wr → s₂.heap.get? b = some o → (trunc h₃ C).get? b = some o := fun (b : Nat) o hb e => by
    have hlt : b < C := by have : b < s₂.heap.objs.size := Heap.lt_size e; omega
    exact bridge_low b o hlt (hs₃.extBut b o (Nat.ne_of_lt hlt) (ho b o hb e))
  have T := turn C i v ys (fun z => if z = x then some v else m₂ z) h₃ (tk + 1) (trunc h₃ C) (restOf h₃ C) E' hC hi ⟨_, hP⟩ hJ₃ hyl (by simp) (bridge_fr hn₃) bridge_news base_ok (fun b o hb e => restOf_mem.mpr ⟨hb, e⟩)
  have sb : ∀ (K : Heap → Prop) s₅, WEnd (trunc h₃ C) C (restOf h₃ C) s₂ K s₅ → CEnd C 0 s₂ h K s₅ := fun K s₅ x => by
    obtain ⟨h', tk', m', a1, a2, a3, a4, a5⟩ := cend_of_wend (k := 0) (fun j hj => absurd hj (Nat.not_lt_zero _)) x
    exact ⟨h', tk', m', a1, a2, a3, fun (b : Nat) o hb e => a4 b o hb (hs₃.extBut b o (by rcases hb with hb | hb; exact Nat.ne_of_lt hb; exact Nat.ne_of_gt (by simpa using hb)) e), a5⟩
  refine wpAny_mono T (fun ok s₄ t₄ => ?_) fun _ _ e => e
  cases ok with
  | false => exact sb _ _ t₄
  | true => exact wpAny_mono t₄ (fun y s₅ t₅ => sb _ _ t₅) fun _ _ e => e
end
end Mine
namespace Mine
open PySem PySem.W PySem.Calls PyProof.Rows
section
variable {A : Around} {E : Value → Shared → Prop} {s : Shared}
theorem ld_compcell {base : Heap} {C c : Addr} {o : Obj} {m₂ : Str → Option Value} {x : Str} {v : Value} {pos : Pos} {scope : Scope} {cl : List (Str × Addr)} {env : Env} {Q : Value → Shared → Prop} {M : Model} (F : Fr base C s.heap m₂) (hc : cl.lookup x = some c) (hb : base.get? c = some o) (hd : o.data = .cell (some v)) (h : Q v s)
    (hk : (compEnvC scope cl C env).scope.kind = .function := by rfl) (hl : (compEnvC scope cl C env).kindOf x = some .cell := by rfl) (hn : (x == ("__debug__" : Str)) = false := by decide) :
    wpAny M A (eval (.Name x pos) (compEnvC scope cl C env)) Q E s := wpAny_Name (wpAny_loadName_cell hk hl hc ⟨o, F.keep _ _ hb, hd⟩ h) hn
theorem ld_compfree {base : Heap} {C c : Addr} {o : Obj} {m₂ : Str → Option Value} {x : Str} {v : Value} {pos : Pos} {scope : Scope} {cl : List (Str × Addr)} {env : Env} {Q : Value → Shared → Prop} {M : Model} (F : Fr base C s.heap m₂) (hc : cl.lookup x = some c) (hb : base.get? c = some o) (hd : o.data = .cell (some v)) (h : Q v s)
    (hk : (compEnvC scope cl C env).scope.kind = .function := by rfl) (hl : (compEnvC scope cl C env).kindOf x = some .free := by rfl) (hn : (x == ("__debug__" : Str)) = false := by decide) (hn2 : (x == ("__classdict__" : Str)) = false := by decide) :
    wpAny M A (eval (.Name x pos) (compEnvC scope cl C env)) Q E s := wpAny_Name (wpAny_loadName_free hk hl hc ⟨o, F.keep _ _ hb, hd⟩ h hn2) hn
end
end Mine
end

section
open PySem PySem.W PySem.Calls PyProof.Rows
namespace Mine
set_option maxRecDepth 100000
section
variable {prog : Program} {w : World} {A : Around} {E : Value → Shared → Prop} {s : Shared}
/-- a turn over one name: given the item v -/
abbrev NTurn (prog : Program) (w : World) (A : Around) (s₁ s : Shared) (elt : Expr) (x : Str) (ifs : List Expr) (scope : Scope) (cl : List (Str × Addr)) (env : Env) (J : Addr → Nat → List Value → Heap → Prop) (P : Nat → Value → Prop) : Prop :=
  ∀ C i v ys m₂ h tk base keepL (E' : Value → Shared → Prop), s.heap.objs.size < C → P i v → J C i ys h → ys.length ≤ i → m₂ x = some v → Fr base C h m₂ → News base C h keepL → Ext s.heap base → (∀ b o, C < b → h.get? b = some o → (b, o) ∈ keepL) →
    wpAny (model prog w) A (forIn ifs true fun c r => if r = true then do let ok ← isTrue c (compEnvC scope cl C env) (eval c (compEnvC scope cl C env)); pure (ForInStep.yield ok) else pure (ForInStep.yield r)) (fun ok s₄ =>
      if ok = true then wpAny (model prog w) A (eval elt (compEnvC scope cl C env)) (fun y s₅ => WEnd base C keepL s₁ (J C (i + 1) (ys ++ [y])) s₅) E' s₄
      else WEnd base C keepL s₁ (J C (i + 1) ys) s₄) E' { s₁ with heap := h, toks := tk }
abbrev NDone (prog : Program) (w : World) (A : Around) (E : Value → Shared → Prop) (s₁ s : Shared) (use : Option (Value → Sem Unit)) (Q : Value → Shared → Prop) (J : Addr → Nat → List Value → Heap → Prop) (n : Nat) : Prop :=
  ∀ D C ys m' h tk, s.heap.objs.size < D → D < C → h.Ns C m' → h.get? D = some (lst ys) → Ext s.heap h → J C n ys h →
    compPost (model prog w) A E use Q (.ref D) C (.ok .next) { s₁ with heap := h, toks := tk }
/-- what comp_name asks behind pyIter -/
abbrev NAsk (prog : Program) (w : World) (A : Around) (E : Value → Shared → Prop) (elt : Expr) (x : Str) (px : Pos) (ifs : List Expr) (scope : Scope) (cl : List (Str × Addr)) (env : Env) (use : Option (Value → Sem Unit)) (Q : Value → Shared → Prop) (J : Addr → Nat → List Value → Heap → Prop) (it : Value) (s₂ : Shared) : Prop :=
  CSrc prog w A (.Name x px) it s₂ fun _ wr n P =>
      (∀ C i v ys m₂ h tk base keepL (E' : Value → Shared → Prop), C = s₂.heap.objs.size + 1 → i < n → (∃ h0, P i v h0) → J C i ys h → ys.length ≤ i → m₂ x = some v → Fr base C h m₂ → News base C h keepL → (∀ b o, b ∉ wr → s₂.heap.get? b = some o → base.get? b = some o) → (∀ b o, C < b → h.get? b = some o → (b, o) ∈ keepL) →
          wpAny (model prog w) A (forIn ifs true fun c r => if r = true then do let ok ← isTrue c (compEnvC scope cl C env) (eval c (compEnvC scope cl C env)); pure (ForInStep.yield ok) else pure (ForInStep.yield r)) (fun ok s₄ =>
            if ok = true then wpAny (model prog w) A (eval elt (compEnvC scope cl C env)) (fun y s₅ => WEnd base C keepL s₂ (J C (i + 1) (ys ++ [y])) s₅) E' s₄
            else WEnd base C keepL s₂ (J C (i + 1) ys) s₄) E' { s₂ with heap := h, toks := tk }) ∧
      (∀ D C ys m h tk, D = s₂.heap.objs.size → C = s₂.heap.objs.size + 1 → h.Ns C m → h.get? D = some (lst ys) → (∀ b o, b ∉ wr → s₂.heap.get? b = some o → h.get? b = some o) → J C n ys h →
        compPost (model prog w) A E use Q (.ref D) C (.ok .next) { s₂ with heap := h, toks := tk })

theorem ask_list {elt : Expr} {x : Str} {px : Pos} {ifs : List Expr} {scope : Scope} {cl : List (Str × Addr)} {env : Env} {use : Option (Value → Sem Unit)} {Q : Value → Shared → Prop} {J : Addr → Nat → List Value → Heap → Prop} {ax : Addr} {its : Array Value}
    (hh : A.handled = none) (hl : s.heap.IsList ax its) (hsz : its.size ≤ sizeLine)
    (turn : ∀ g, NTurn prog w A { s with heap := g } s elt x ifs scope cl env J (fun i v => its[i]? = some v)) (done : ∀ g, NDone prog w A E { s with heap := g } s use Q J its.size) :
    wpAny (model prog w) A (pyIter (.ref ax)) (NAsk prog w A E elt x px ifs scope cl env use Q J) E s := by
  refine wpAny_pyIter_list hl ?_
  have hlt : ax < s.heap.objs.size := by obtain ⟨_, e, _⟩ := hl; exact Heap.lt_size e
  have W := Walks.list (prog := prog) (w := w) hh s.heap.objs.size ax (Nat.ne_of_lt hlt) its
  have up : Ext s.heap (s.heap.push { cls := .type "list_iterator", data := .fields #[.ref ax, .int 0 0] }) := fun b o e => Heap.get?_push_of_some _ e
  have hz : (s.heap.push { cls := .type "list_iterator", data := .fields #[.ref ax, .int 0 0] }).objs.size = s.heap.objs.size + 1 := Heap.size_push ..
  refine ⟨_, _, _, _, _, _, _, rfl, KTurns.ofWalks W (fun i v s' Q E' _ hq => wpAny_pure hq), hsz, ⟨⟨_, Heap.get?_push_size _ rfl, rfl, rfl⟩, hl.push _⟩, fun b hb => ?_, fun h' tk Q E' st hq => W.self 0 _ _ _ st hq, ?_, ?_⟩
  · show b < (s.heap.push _).objs.size
    rw [Heap.size_push]
    rcases List.mem_cons.mp hb with rfl | hb
    · exact Nat.lt_succ_self _
    · rw [List.mem_singleton.mp hb]; exact Nat.lt_succ_of_lt hlt
  · rintro C i v ys m₂ h tk base keepL E' hC hi ⟨_, hP⟩ hJ hyl hx F N ho hk
    refine turn _ C i v ys m₂ h tk base keepL E' ?_ hP hJ hyl hx F N (fun b o e => ho b o ?_ (up b o e)) hk
    · rw [hC]; dsimp only; rw [hz]; omega
    · intro hm; exact absurd (Heap.lt_size e) (by rw [List.mem_singleton.mp hm]; exact Nat.lt_irrefl _)
  · rintro D C ys m h tk hD hC hn hd ho hJ
    refine done _ D C ys m h tk ?_ ?_ hn hd (fun b o e => ho b o ?_ (up b o e)) hJ
    · rw [hD]; dsimp only; rw [hz]; exact Nat.lt_succ_self _
    · rw [hD, hC]; exact Nat.lt_succ_self _
    · intro hm; exact absurd (Heap.lt_size e) (by rw [List.mem_singleton.mp hm]; exact Nat.lt_irrefl _)

theorem ask_range {elt : Expr} {x : Str} {px : Pos} {ifs : List Expr} {scope : Scope} {cl : List (Str × Addr)} {env : Env} {use : Option (Value → Sem Unit)} {Q : Value → Shared → Prop} {J : Addr → Nat → List Value → Heap → Prop} {r : Addr} {a b : Int} {t u v : Tok} {n : Nat}
    (hh : A.handled = none) (hr : IsRange s.heap r a b 1 t u v) (hsm : Builtin.Range.small a b 1 = true) (hn : Builtin.Range.rangeSize a b 1 = ((n : Nat) : Int)) (hsz : n ≤ sizeLine)
    (turn : ∀ g, NTurn prog w A { s with heap := g } s elt x ifs scope cl env J (fun i v => i < n ∧ ∃ t, v = .int (a + (i : Int)) t)) (done : ∀ g, NDone prog w A E { s with heap := g } s use Q J n) :
    wpAny (model prog w) A (pyIter (.ref r)) (NAsk prog w A E elt x px ifs scope cl env use Q J) E s := by
  refine wpAny_pyIter_range hr hsm ?_
  have W := LCg.range_walks (prog := prog) (w := w) (I := s.heap.objs.size) hh a n
  have up : Ext s.heap (s.heap.push { cls := .type "range_iterator", data := .fields #[rawInt a, rawInt (Builtin.Range.rangeSize a b 1), rawInt 1] }) := fun b o e => Heap.get?_push_of_some _ e
  have hz : (s.heap.push { cls := .type "range_iterator", data := .fields #[rawInt a, rawInt (Builtin.Range.rangeSize a b 1), rawInt 1] }).objs.size = s.heap.objs.size + 1 := Heap.size_push ..
  refine ⟨_, _, _, _, _, _, _, rfl, KTurns.ofWalks W (fun i v s' Q E' _ hq => wpAny_pure hq), hsz, (by show IsRangeIter _ _ _ _ _; rw [hn]; simpa using Heap.get?_push_size _ rfl), fun b hb => ?_, fun h' tk Q E' st hq => W.self 0 _ _ _ st hq, ?_, ?_⟩
  · rw [List.mem_singleton.mp hb]
    show s.heap.objs.size < (s.heap.push _).objs.size
    rw [Heap.size_push]; exact Nat.lt_succ_self _
  · rintro C i v ys m₂ h tk base keepL E' hC hi ⟨_, hP⟩ hJ hyl hx F N ho hk
    refine turn _ C i v ys m₂ h tk base keepL E' ?_ ⟨hi, hP⟩ hJ hyl hx F N (fun b o e => ho b o ?_ (up b o e)) hk
    · rw [hC]; dsimp only; rw [hz]; omega
    · intro hm; exact absurd (Heap.lt_size e) (by rw [List.mem_singleton.mp hm]; exact Nat.lt_irrefl _)
  · rintro D C ys m h tk hD hC hn hd ho hJ
    refine done _ D C ys m h tk ?_ ?_ hn hd (fun b o e => ho b o ?_ (up b o e)) hJ
    · rw [hD]; dsimp only; rw [hz]; exact Nat.lt_succ_self _
    · rw [hD, hC]; exact Nat.lt_succ_self _
    · intro hm; exact absurd (Heap.lt_size e) (by rw [List.mem_singleton.mp hm]; exact Nat.lt_irrefl _)

/-- the block as a value -/
theorem lc_expr {elt iter : Expr} {x : Str} {px : Pos} {ifs : List Expr} {scope : Scope} {cl : List (Str × Addr)} {pos : Pos} {env : Env} {Q : Value → Shared → Prop} (J : Addr → Nat → List Value → Heap → Prop)
    (hclos : closureFor scope env = pure cl) (hcell : ∀ z ∈ scope.names, z.2 ≠ .cell) (hkind : scope.kind = .function) (hnames : ∀ z ∈ scope.names, z.2 = .local → scope.names.lookup z.1 = some .local) (hx : scope.names.lookup x = some .local)
    (hJ0 : ∀ C h, J C 0 [] h) (hJm : ∀ C i ys h h', (∀ b o, C < b → h.get? b = some o → h'.get? b = some o) → J C i ys h → J C i ys h')
    (h : wpAny (model prog w) A (eval iter env) (fun xv s₁ => wpAny (model prog w) A (pyIter xv) (NAsk prog w A E elt x px ifs scope cl env none Q J) E s₁) E s)
    (hs : ∀ x, foldedSetIterable iter env x = pure x := by intro _; rfl) :
    wpAny (model prog w) A (eval (.ListComp elt [⟨.Name x px, iter, ifs, 0⟩] scope pos) env) Q E s := by
  rw [eval_ListComp]
  exact comp_name J hclos hcell hkind hnames hx hs hJ0 hJm h
/-- y = the block -/
theorem lc_assign {elt iter : Expr} {x y : Str} {px py : Pos} {ifs : List Expr} {scope : Scope} {cl : List (Str × Addr)} {pos spos : Pos} {env : Env} {Q : Flow → Shared → Prop} (J : Addr → Nat → List Value → Heap → Prop)
    (hsw : swapsWith (.ListComp elt [⟨.Name x px, iter, ifs, 0⟩] scope pos) (some (.Name y py)) spos.line env = pure true)
    (hclos : closureFor scope env = pure cl) (hcell : ∀ z ∈ scope.names, z.2 ≠ .cell) (hkind : scope.kind = .function) (hnames : ∀ z ∈ scope.names, z.2 = .local → scope.names.lookup z.1 = some .local) (hx : scope.names.lookup x = some .local)
    (hJ0 : ∀ C h, J C 0 [] h) (hJm : ∀ C i ys h h', (∀ b o, C < b → h.get? b = some o → h'.get? b = some o) → J C i ys h → J C i ys h')
    (h : wpAny (model prog w) A (eval iter env) (fun xv s₁ => wpAny (model prog w) A (pyIter xv) (NAsk prog w A E elt x px ifs scope cl env (some (assign (.Name y py) env)) (fun _ s' => Q .next s') J) E s₁) E s)
    (hs : ∀ x, foldedSetIterable iter env x = pure x := by intro _; rfl) :
    wpAny (model prog w) A (exec (.Assign [.Name y py] (.ListComp elt [⟨.Name x px, iter, ifs, 0⟩] scope pos) spos) env) Q E s := by
  rw [exec_Assign_Name_used _ _ _ _ hsw]
  refine wpAny_bind (wpAny_standAt (wpAny_bind ?_))
  show wpAny _ A (do let _ ← comprehension (.ListComp elt [⟨.Name x px, iter, ifs, 0⟩] scope pos) scope env _ (newList []) false (eval iter env) (some (assign (.Name y py) env))) _ _ s
  exact wpAny_bind (wpAny_mono (comp_name (use := some (assign (.Name y py) env)) (Q := fun _ s' => Q .next s') J hclos hcell hkind hnames hx hs hJ0 hJm h) (fun _ s' hq => wpAny_pure (wpAny_pure hq)) fun _ _ e => e)

theorem post_expr {Q : Value → Shared → Prop} {D C : Addr} {H : Heap} {m' : Str → Option Value} {h₀ : Heap} {L : Addr} {m : Str → Option Value} {news : List (Addr × Obj)} {ge : Array GenState} {dr : Drawn} {so : OsState} {ys : List Value} {h : Heap} {tk : Nat}
    (F : Fr h₀ L H m) (N : News h₀ L H news) (hD : H.objs.size < D) (hDC : D < C) (hn : h.Ns C m') (hd : h.get? D = some (lst ys)) (he : Ext H h)
    (k : ∀ h', Fr h₀ L h' m → News h₀ L h' ((D, lst ys) :: news) → (∀ p ∈ news, p.1 < D) → Ext H h' → (∀ b o, b ≠ C → h.get? b = some o → h'.get? b = some o) → Q (.ref D) ⟨h', ge, dr, tk, so⟩) :
    compPost (model prog w) A E none Q (.ref D) C (.ok .next) ⟨h, ge, dr, tk, so⟩ := by
  have hDC' : @LT.lt Nat _ D C := hDC
  have hD' : @LT.lt Nat _ H.objs.size D := hD
  refine ⟨m', hn, fun h' hs' => ?_⟩
  have e1 : ∀ b o, b ≠ C → h.get? b = some o → h'.get? b = some o := fun b o hb e => hs'.extBut b o hb e
  have e2 : Ext H h' := fun (b : Nat) o e => e1 b o (neLt (by have : b < H.objs.size := Heap.lt_size e; omega)) (he b o e)
  have hD0 : h₀.get? D = none := by
    cases q : h₀.get? D with
    | none => rfl
    | some o => exact absurd (Heap.lt_size (F.keep D o q)) (Nat.not_lt.mpr (Nat.le_of_lt hD))
  refine k h' (F.kept e2) (fun p hp => ?_) (fun p hp => Nat.lt_trans (Heap.lt_size (N p hp).1) hD) e2 e1
  rcases List.mem_cons.mp hp with rfl | hp
  · exact ⟨e1 _ _ (Nat.ne_of_lt hDC) hd, fun q => by have q' : D = L := q; have := F.ns.lt; rw [← q'] at this; exact absurd this (Nat.not_lt.mpr (Nat.le_of_lt hD)), hD0⟩
  · exact N.grown e2 p hp
end
end Mine
end

section
open PySem PySem.W PySem.Calls PyProof.Rows
namespace Mine
set_option maxRecDepth 100000
section
variable {prog : Program} {w : World} {A : Around} {E : Value → Shared → Prop} {s : Shared}
theorem post_assign {Q : Shared → Prop} {y : Str} {py : Pos} {env : Env} {D C : Addr} {H : Heap} {m' : Str → Option Value} {h₀ : Heap} {L : Addr} {m : Str → Option Value} {news : List (Addr × Obj)} {ge : Array GenState} {dr : Drawn} {so : OsState} {ys : List Value} {h : Heap} {tk : Nat}
    (F : Fr h₀ L H m) (N : News h₀ L H news) (hL : env.locals = L) (hD : H.objs.size < D) (hDC : D < C) (hn : h.Ns C m') (hd : h.get? D = some (lst ys)) (he : Ext H h)
    (k : ∀ h' tk', Fr h₀ L h' (fun z => if z = y then some (.ref D) else m z) → News h₀ L h' ((D, lst ys) :: news) → (∀ p ∈ news, p.1 < D) → (∀ b o, b ≠ L → H.get? b = some o → h'.get? b = some o) → (∀ b o, b ≠ C → b ≠ L → h.get? b = some o → h'.get? b = some o) → Q ⟨h', ge, dr, tk', so⟩)
    (hy : env.kindOf y = some .local) (hp : (env.scope.kind == .class || (env.scope.kind == .module && env.locals != env.globals)) = false) :
    compPost (model prog w) A E (some (assign (.Name y py) env)) (fun _ s' => Q s') (.ref D) C (.ok .next) ⟨h, ge, dr, tk, so⟩ := by
  subst hL
  have hLs : @LT.lt Nat _ env.locals H.objs.size := F.ns.lt
  have hDC' : @LT.lt Nat _ D C := hDC
  have hD' : @LT.lt Nat _ H.objs.size D := hD
  have hnL : h.Ns env.locals m := F.ns.keeps he
  show wpAny _ A (assign (.Name y py) env (.ref D)) _ _ _
  refine wpAny_assign_Name (wpAny_storeName_local hy hnL (fun h₂ hn₂ hs₂ => ?_) hp)
  refine ⟨m', hn.sameBut hs₂ (Nat.ne_of_gt (by omega)), fun h' hs' => ?_⟩
  have e1 : ∀ b o, b ≠ C → b ≠ env.locals → h.get? b = some o → h'.get? b = some o := fun b o hb hl e => hs'.extBut b o hb (hs₂.extBut b o hl e)
  have e2 : ∀ b o, b ≠ env.locals → H.get? b = some o → h'.get? b = some o := fun (b : Nat) o hl e => e1 b o (neLt (by have : b < H.objs.size := Heap.lt_size e; omega)) hl (he b o e)
  have hD0 : h₀.get? D = none := by
    cases q : h₀.get? D with
    | none => rfl
    | some o => exact absurd (Heap.lt_size (F.keep D o q)) (Nat.not_lt.mpr (Nat.le_of_lt hD))
  have hL0 : h₀.get? env.locals = none := Heap.get?_none_of_le F.above
  refine k h' _ ⟨hn₂.sameBut hs' (Nat.ne_of_lt (by omega)), fun b o e => e2 b o (fun q => by rw [q, hL0] at e; cases e) (F.keep b o e), F.above⟩ (fun p hp => ?_) (fun p hp => Nat.lt_trans (Heap.lt_size (N p hp).1) hD) e2 e1
  rcases List.mem_cons.mp hp with rfl | hp
  · exact ⟨e1 _ _ (Nat.ne_of_lt hDC) (Nat.ne_of_gt (by omega)) hd, Nat.ne_of_gt (by omega), hD0⟩
  · exact ⟨e2 _ _ (N p hp).2.1 (N p hp).1, (N p hp).2⟩

theorem unr_mono {h₀ : Heap} {L : Addr} {s₁ : Shared} {its : List (Addr × Obj)} {r r' : (Str → Option Value) → List (Addr × Obj) → Prop} {Q : Flow → Shared → Prop} {f : Flow} {s₂ : Shared} (hr : ∀ m n, r m n → r' m n) (h : UnrPostW h₀ L s₁ its r Q f s₂) : UnrPostW h₀ L s₁ its r' Q f s₂ := by
  cases f with
  | ret v => exact h
  | brk => exact h
  | next => obtain ⟨h', tk, m', n', e, F, N, o, x⟩ := h; exact ⟨h', tk, m', n', e, F, N, o, hr _ _ x⟩
  | cont => obtain ⟨h', tk, m', n', e, F, N, o, x⟩ := h; exact ⟨h', tk, m', n', e, F, N, o, hr _ _ x⟩

/-- for a, b in enumerate(list): by what holds ahead of the i-th turn -/
theorem enum_inv {env : Env} {h₀ : Heap} {body : List Stmt} {Q : Flow → Shared → Prop} {elts : List Expr} {k : Nat} {pos : Pos} {l : Addr} {lo : Obj} {vs : List Value} {n : Nat} {m₀ : Str → Option Value} {news : List (Addr × Obj)} (J : Nat → (Str → Option Value) → List (Addr × Obj) → Prop)
    (hh : A.handled = none) (F : Fr h₀ env.locals s.heap m₀) (N : News h₀ env.locals s.heap news) (hm : (l, lo) ∈ news) (hc : lo.cls = .type "list") (hd : lo.data = .seq vs.toArray n)
    (hj : J 0 m₀ news) (hkeep : ∀ i m nw, J i m nw → (l, lo) ∈ nw)
    (turn : ∀ (I : Addr) i x T t m₁ nw h tk oe oi, i < vs.length → vs[i]? = some x → J i m₁ nw → IsTup h T #[.int (i : Nat) t, x] → oe.cls = .type "enumerate" → oi.cls = .type "list_iterator" → (∀ p ∈ news, p.1 < I) → Fr h₀ env.locals h m₁ → News h₀ env.locals h ((I + 1, oe) :: (I, oi) :: nw) →
      wpAny (model prog w) A (assign (.Tuple elts k pos) env (.ref T)) (fun _ s₂ => wpAny (model prog w) A (execs body env) (UnrPostW h₀ env.locals { s with heap := h, toks := tk } [(I + 1, oe), (I, oi)] (J (i + 1)) Q) E s₂) E { s with heap := h, toks := tk })
    (done : ∀ m₁ nw h tk, J vs.length m₁ nw → Fr h₀ env.locals h m₁ → News h₀ env.locals h nw → Q .next { s with heap := h, toks := tk }) :
    wpAny (model prog w) A (call (.type "enumerate") [.ref l]) (fun xv s₁ => wpAny (model prog w) A (pyIter xv) (fun it s₂ => TurnsAt prog w A h₀ env (.Tuple elts k pos) body Q E it s₂) E s₁) E s := by
  refine ktu_enum hh F N hm hc hd rfl fun I hI => ?_
  have go : ∀ (r : List Value) (i : Nat) m nw, i ≤ vs.length → r = vs.drop i → J i m nw → ItemsRest prog w A E h₀ env (.Tuple elts k pos) body Q s [(I + 1, "enumerate"), (I, "list_iterator")] [(l, lo)] (enumItems i r) m nw := by
    intro r
    induction r with
    | nil =>
      intro i m nw hi e hj
      have hle : vs.length ≤ i := by
        have := congrArg List.length e
        rw [List.length_nil, List.length_drop] at this
        omega
      obtain rfl : i = vs.length := by omega
      exact fun h tk F N => done m nw h tk hj F N
    | cons x r ih =>
      intro i m nw hi e hj
      have hlt : i < vs.length := by
        have := congrArg List.length e
        rw [List.length_cons, List.length_drop] at this
        omega
      have hx : vs[i]? = some x := by
        have := congrArg (fun l => l[0]?) e
        simpa using this.symm
      have hr : r = vs.drop (i + 1) := by
        have := congrArg List.tail e
        simpa using this
      show ItemsRest prog w A E h₀ env (.Tuple elts k pos) body Q s [(I + 1, "enumerate"), (I, "list_iterator")] [(l, lo)] (.pair (fun t => .int ((i : Nat) : Int) t) x :: enumItems (i + 1) r) m nw
      refine ItemsRest.pair fun T t h tk hT F => ?_
      refine AllObj.cons fun oe hoe => AllObj.cons fun oi hoi => AllObj.nil fun N => ?_
      refine wpAny_mono (turn I i x T t m nw h tk oe oi hlt hx hj hT hoe hoi hI F N) (fun _ s₂ h₂ => wpAny_mono h₂ (fun f s₃ h₃ => unr_mono (fun m' n' hj' => ?_) h₃) fun _ _ e => e) fun _ _ e => e
      exact ⟨⟨hkeep _ _ _ hj', trivial⟩, ih (i + 1) m' n' hlt hr hj'⟩
  exact go vs 0 m₀ news (Nat.zero_le _) (by simp) hj
end
end Mine
namespace Mine
open PySem PySem.W PySem.Calls PyProof.Rows
theorem unr_end {h₀ : Heap} {L I : Addr} {oe oi : Obj} {rest : (Str → Option Value) → List (Addr × Obj) → Prop} {s₁ : Shared} {h' : Heap} {tk : Nat} {m' : Str → Option Value} {all : List (Addr × Obj)} (hoe : oe.cls = .type "enumerate") (hoi : oi.cls = .type "list_iterator")
    (F : Fr h₀ L h' m') (N : News h₀ L h' all) (news' : List (Addr × Obj)) (h1 : (I + 1, oe) ∈ all) (h2 : (I, oi) ∈ all) (sub : ∀ p ∈ news', p ∈ all)
    (off : ∀ p ∈ news', ((@Ne Nat p.1 I) ∧ (@Ne Nat p.1 (I + 1))) ∨ p.2.cls = .type "tuple" ∨ p.2.cls = .type "list") (r : rest m' news') : UnrEndW h₀ L s₁ [(I + 1, oe), (I, oi)] rest { s₁ with heap := h', toks := tk } := by
  refine ⟨h', tk, m', news', rfl, F, fun p hp => ?_, fun p hp q hq e => ?_, r⟩
  · rcases List.mem_append.mp hp with hp | hp
    · rcases List.mem_cons.mp hp with rfl | hp
      · exact N _ h1
      · rw [List.mem_singleton.mp hp]; exact N _ h2
    · exact N p (sub p hp)
  · have hq' : q = (I + 1, oe) ∨ q = (I, oi) := by simpa using hq
    rcases off p hp with ⟨o1, o2⟩ | hc
    · rcases hq' with rfl | rfl
      · exact o2 e
      · exact o1 e
    · have e1 := (N p (sub p hp)).1
      rcases hq' with rfl | rfl
      · have e2 := (N _ h1).1
        rw [e] at e1
        have e3 : p.2 = oe := Option.some.inj (e1.symm.trans e2)
        rw [e3, hoe] at hc
        simp at hc
      · have e2 := (N _ h2).1
        rw [e] at e1
        have e3 : p.2 = oi := Option.some.inj (e1.symm.trans e2)
        rw [e3, hoi] at hc
        simp at hc
end Mine
end

section
open PySem PySem.W PySem.Calls PyProof.Rows
namespace Mine
noncomputable abbrev LO0 : List Str := looseW hd.view_39 [Str.ofString "UTC_ZONES", Str.ofString "TIMEZONE_RE", Str.ofString "insort_right", Str.ofString "bisect_right", Str.ofString "insort_left", Str.ofString "bisect_left", Str.ofString "_twin_re_1", Str.ofString "_twin_re_2"]
noncomputable abbrev LO : List Str := LO0 ++ List.map (fun x => x.name) (recsOf hd.view_39) ++ List.map (fun x => x.fst) (litsOf hd.view_39) ++ List.map (fun x => x.name) (clssOf hd.view_39 LO0)
noncomputable abbrev MM (w : World) : Model := model PySem.Challenge.rw_xe0016_01.row.prog w

/-- a call of the text's def at `f` on `vs`, from any frame: it hands back some v with R v h', and the heap has grown only -/
noncomputable abbrev Calls (w : World) (mean : ExcName → Option Value) (mg mb : Str → Option Value) (f : Addr) (vs : List Value) (kw : List (Str × Value)) (pre : Heap → Prop) (R : Heap → Value → Heap → Prop) : Prop :=
  ∀ (dp un : Nat) (gd : Option (List Code)) (cn : Str) (cs : Scope) (a : Addr) (ccd : Value) (cl : List (Str × Addr)) (outer : List Env) (A₀ : Around) (base h₀ : Heap) (L : Addr) (m : Str → Option Value) (s : Shared) (Q E : Value → Shared → Prop),
    Below A₀ base outer h₀ → Fr h₀ L s.heap m → (hd.heap_39 w.params).In h₀ → Top topProg LO mean mg mb h₀ → cs.kind = .function →
    dp + 20 < recursionLimit → un + 100 < cLine → pre s.heap →
    (∀ v h' tk', Ext s.heap h' → R s.heap v h' → Q v { s with heap := h', toks := tk' }) →
      wpAny (MM w) (ktrTop dp un gd cn cs L a ccd cl outer) (call (.ref f) vs kw) Q E s

section
variable {prog : Program} {w : World} {A A₀ : Around} {s : Shared} {K : Frag} {L : Addr} {h₀ base : Heap} {m mg mb : Str → Option Value} {news : List (Addr × Obj)} {p : Program} {loose : List Str} {mean : ExcName → Option Value}
theorem enterE {env : Env} {outer : List Env} {R : Result → Shared → Prop} {name qual : Str} {params : Arguments} {body : List Stmt} {scope : Scope} {dV kV doc pm cdv ct oc : Value} {an od : Option Addr} {osl : Array (Option Value)} {f : Addr} {args : Args} {binds : List (Str × Value)}
    (B : Below A₀ base outer h₀) (F : Fr h₀ L s.heap m) (X : K.In h₀) (N : News h₀ L s.heap news) (T : Top p loose mean mg mb h₀) (hA : A.frames = some (env :: outer)) (hf : env.frame = some L) (hke : env.scope.kind = .function)
    (ho : K.lookup f = some ⟨oc, od, .func (fnOf name qual params body scope dV kV doc pm an cdv ct), osl⟩) (hcd : codeIn K cdv qual = true) (hroom : A.depth < recursionLimit)
    (hbind : BindsTo s (fnOf name qual params body scope dV kV doc pm an cdv ct) args binds) (hloc : ∀ y ∈ binds, scope.names.lookup y.1 = some .local)
    (h : ∀ g L' h₁, Fr h₀ L g m → Fr g L' h₁ (fun y => binds.reverse.lookup y) → News g L' h₁ news → Below A base (env :: outer) g → K.In g → Top p loose mean mg mb g →
      (∀ b o, b ∉ news.map (·.1) → s.heap.get? b = some o → g.get? b = some o) →
      wpAny (model prog w) (A.deeper (envOf qual scope L' f cdv)) (execs body (envOf qual scope L' f cdv))
        (fun fl s' => LeaveK h₀ L m g R (match fl with | .ret v => v | _ => .none) s')
        (fun e s' => wpAny (model prog w) (A.deeper (envOf qual scope L' f cdv)) (leaving (envOf qual scope L' f cdv) e) (fun _ s'' => R (.error e) s'') (fun e' s'' => R (.error e') s'') s')
        { s with heap := h₁, toks := s.toks + binds.length })
    (hco : scope.isCoroutine = false) (hgen : scope.isGenerator = false) (hk : scope.kind = .function)
    (hcell : ∀ x ∈ scope.names, x.2 ≠ .cell) : codeAny (model prog w) A (.call (.ref f) args) R s := by
  have hx := X.keeps F.keep
  obtain ⟨FG, BG, st, lv⟩ := groundX (R := R) B F N hA hf hke
  have st' : ∀ b o, h₀.get? b = some o → (hideAll s.heap (news.map (·.1))).get? b = some o := fun b o e => st b o e
  refine codeAny_call_def (fd := fnOf name qual params body scope dV kV doc pm an cdv ct) (body := body) (binds := binds) hroom (hx _ _ ho) rfl (T.nolimit.keeps F.keep) (codeRec_of hx hcd) rfl hbind hcell hloc (fun h₁ hns hk₁ => ?_) hco hgen hk
  refine wpAny_mono (h (hideAll s.heap (news.map (·.1))) s.heap.objs.size h₁ FG ⟨hns, fun b o e => hk₁ b o (of_hideAll _ e), Nat.le_of_eq (hideAll_size _ _)⟩ (fun q hq => ?_) BG (X.keeps st') (T.keeps st') (fun b o hb e => hideAll_get _ e hb)) (fun fl s' hl => lv _ _ hl) fun _ _ y => y
  exact ⟨hk₁ _ _ (N q hq).1, Nat.ne_of_lt (Heap.lt_size (N q hq).1), hideAll_none _ (List.mem_map_of_mem hq)⟩
theorem enterC {env : Env} {outer : List Env} {R : Result → Shared → Prop} {name qual : Str} {params : Arguments} {body : List Stmt} {scope : Scope} {dV kV doc pm cdv ct oc : Value} {an od : Option Addr} {osl : Array (Option Value)} {f : Addr} {args : Args} {binds : List (Str × Value)}
    (B : Below A₀ base outer h₀) (F : Fr h₀ L s.heap m) (X : K.In h₀) (N : News h₀ L s.heap news) (T : Top p loose mean mg mb h₀) (hA : A.frames = some (env :: outer)) (hf : env.frame = some L) (hke : env.scope.kind = .function)
    (ho : K.lookup f = some ⟨oc, od, .func (fnOf name qual params body scope dV kV doc pm an cdv ct), osl⟩) (hcd : codeIn K cdv qual = true) (hroom : A.depth < recursionLimit)
    (hbind : BindsTo s (fnOf name qual params body scope dV kV doc pm an cdv ct) args binds) (hkind : (binds.all fun y => scope.names.lookup y.1 == some .local || scope.names.lookup y.1 == some .cell) = true)
    (hnd : ((cellsFrom 0 scope.names []).map (·.1)).Nodup)
    (h : ∀ g L' h₁ tk cells, Fr h₀ L g m → Fr g L' h₁ (bindL (envOfC qual scope L' f cdv).kindOf binds fun _ => none) → News g L' h₁ (cells ++ news) →
      CellsAre (bindC (envOfC qual scope L' f cdv).kindOf binds fun _ => none) (cellsFrom (L' + 1) scope.names []) cells → Below A base (env :: outer) g → K.In g → Top p loose mean mg mb g → (∀ p ∈ news, p.1 < L') →
      (∀ b o, b ∉ news.map (·.1) → s.heap.get? b = some o → g.get? b = some o) →
      wpAny (model prog w) (A.deeper (envOfC qual scope L' f cdv)) (execs body (envOfC qual scope L' f cdv))
        (fun fl s' => LeaveK h₀ L m g R (match fl with | .ret v => v | _ => .none) s')
        (fun e s' => wpAny (model prog w) (A.deeper (envOfC qual scope L' f cdv)) (leaving (envOfC qual scope L' f cdv) e) (fun _ s'' => R (.error e) s'') (fun e' s'' => R (.error e') s'') s')
        { s with heap := h₁, toks := tk })
    (hco : scope.isCoroutine = false) (hgen : scope.isGenerator = false) (hk : scope.kind = .function) : codeAny (model prog w) A (.call (.ref f) args) R s := by
  have hx := X.keeps F.keep
  obtain ⟨FG, BG, st, lv⟩ := groundX (R := R) B F N hA hf hke
  have st' : ∀ b o, h₀.get? b = some o → (hideAll s.heap (news.map (·.1))).get? b = some o := fun b o e => st b o e
  refine codeAny_call_function hroom (hx _ _ ho) rfl hco hgen rfl (codeRec_of hx hcd) (hbind _ _ _ _ ?_)
  refine wpAny_newFunctionEnv_cells hk (kindsX hkind _) fun env' he s' x => ?_
  subst he
  refine ⟨(T.nolimit.keeps F.keep).keeps x.toInCall.keep, codeAny_func ?_⟩
  obtain ⟨h₁, tk, rfl, _⟩ := x.done
  have hk₁ := x.toInCall.keep
  obtain ⟨cells, NC, Y⟩ := Cl.news (h₀ := s.heap) (Nat.le_refl _) fun n c hm => ⟨x.cell n c (lookup_of_mem_nodup (cellsFrom_names scope.names 0 (s.heap.objs.size + 1) [] [] rfl ▸ hnd) hm), x.above n c hm⟩
  have NN : News (hideAll s.heap (news.map (·.1))) s.heap.objs.size h₁ (cells ++ news) := fun q hq => by
    rcases List.mem_append.mp hq with hq | hq
    · refine ⟨(NC q hq).1, (NC q hq).2.1, ?_⟩
      cases e : (hideAll s.heap (news.map (·.1))).get? q.1 with
      | none => rfl
      | some o => have := of_hideAll _ e; rw [(NC q hq).2.2] at this; cases this
    · exact ⟨hk₁ _ _ (N q hq).1, Nat.ne_of_lt (Heap.lt_size (N q hq).1), hideAll_none _ (List.mem_map_of_mem hq)⟩
  exact wpAny_mono (h _ s.heap.objs.size h₁ tk cells FG ⟨x.toInCall.ns, fun b o e => hk₁ b o (of_hideAll _ e), Nat.le_of_eq (hideAll_size _ _)⟩ NN Y BG (X.keeps st') (T.keeps st') (fun q hq => Heap.lt_size (N q hq).1) (fun b o hb e => hideAll_get _ e hb)) (fun fl s' hl => lv _ _ hl) fun _ _ y => y
end
local macro_rules | `(tactic| walk_at "m_enter") => `(tactic| (refine' enterE ?k1 ?k2 ?k3 ?k4 ?k5 ?kA ?kF ?kK ?k6 ?k7 ?k8 ?k9 ?kB ?_ ?c2 ?c3 ?c4 ?c5; (case kA => exact rfl); (case kF => exact rfl); (case kK => assumption); (case k1 => k_asm); (case k2 => k_asm); (case k3 => k_asm); (case k4 => k_asm); (case k5 => k_asm); (case k6 => k_is); (case k7 => k_is); (case k8 => ktr_room); (case k9 => exact BindsTo.of_eq rfl); (case c5 => decide); (case kB => exact locs rfl); (case c2 => exact rfl); (case c3 => exact rfl); (case c4 => exact rfl); k_whole; intro g' L' h' FG' F' N' B' X' T' G'; (try dsimp only); (try k_lift B'); (try k_fold)))
end Mine
end

section
open PySem PySem.W PySem.Calls PyProof.Rows
namespace Mine
set_option maxRecDepth 100000
section
variable {prog : Program} {w : World} {A : Around} {E : Value → Shared → Prop} {s : Shared}
theorem walksLt {I : Addr} {fp wr : List Addr} {n : Nat} {P : Nat → Value → Prop} {St : Nat → Heap → Prop} (W : Walks prog w A I fp wr n P St) : Walks prog w A I fp wr n (fun i v => i < n ∧ P i v) St :=
  { W with item := fun i s Q E hi hst h => W.item i s Q E hi hst fun v h' tk hp => h v h' tk ⟨hi, hp⟩ }
/-- for x in range(a, ..): by what holds ahead of the i-th turn -/
theorem range_inv {env : Env} {h₀ : Heap} {body : List Stmt} {Q : Flow → Shared → Prop} {x : Str} {px : Pos} {r : Addr} {a b : Int} {t u v : Tok} {n : Nat} {m₀ : Str → Option Value} {news : List (Addr × Obj)} (J : Nat → (Str → Option Value) → List (Addr × Obj) → Prop)
    (hh : A.handled = none) (F : Fr h₀ env.locals s.heap m₀) (N : News h₀ env.locals s.heap news) (hr : IsRange s.heap r a b 1 t u v) (hsm : Builtin.Range.small a b 1 = true) (hn : Builtin.Range.rangeSize a b 1 = ((n : Nat) : Int))
    (hj : J 0 m₀ news)
    (turn : ∀ (I : Addr) i t m₁ nw h tk oi, i < n → J i m₁ nw → oi.cls = .type "range_iterator" → (∀ p ∈ news, p.1 < I) → Fr h₀ env.locals h m₁ → News h₀ env.locals h ((I, oi) :: nw) →
      wpAny (model prog w) A (assign (.Name x px) env (.int (a + (i : Int)) t)) (fun _ s₂ => wpAny (model prog w) A (execs body env) (UnrPostW h₀ env.locals { s with heap := h, toks := tk } [(I, oi)] (J (i + 1)) Q) E s₂) E { s with heap := h, toks := tk })
    (done : ∀ m₁ nw h tk, J n m₁ nw → Fr h₀ env.locals h m₁ → News h₀ env.locals h nw → Q .next { s with heap := h, toks := tk }) :
    wpAny (model prog w) A (pyIter (.ref r)) (fun it s₂ => TurnsAt prog w A h₀ env (.Name x px) body Q E it s₂) E s := by
  have hLs : @LT.lt Nat _ env.locals s.heap.objs.size := F.ns.lt
  refine wpAny_pyIter_range hr hsm ?_
  have W := LCg.range_walks (prog := prog) (w := w) (I := s.heap.objs.size) hh a n
  have hI : ∀ p ∈ news, @LT.lt Nat _ p.1 s.heap.objs.size := fun p hp => Heap.lt_size (N p hp).1
  refine ktu_core (s := s) (tk0 := s.toks) (keep := []) (ws := [(s.heap.objs.size, "range_iterator")]) (xs := (List.range n).map fun i : Nat => Itm.tok fun t => Value.int (a + (i : Int)) t) (KTurns.ofWalks (walksLt W) (fun i v s' Q E' _ hq => wpAny_pure hq)) (by simp) ?_ ?_ ?_ ?_ ?_ ?_ ?_ (by show IsRangeIter _ _ _ _ _; rw [hn]; simpa using Heap.get?_push_size _ rfl) (F.push _) (fun p hp => ⟨Heap.get?_push_of_some _ (N p hp).1, (N p hp).2⟩) trivial ?_
  · rintro i v' h ⟨hi, t', rfl⟩
    exact ⟨Itm.tok fun t => Value.int (a + (i : Int)) t, by rw [List.getElem?_map, List.getElem?_range hi]; rfl, t', rfl⟩
  · rintro i h hI'
    obtain ⟨oi, e, hc⟩ : ∃ oi : Obj, h.get? s.heap.objs.size = some oi ∧ oi.cls = .type "range_iterator" := ⟨_, hI', rfl⟩
    exact ⟨[(s.heap.objs.size, oi)], ⟨⟨rfl, hc⟩, trivial⟩, fun p hp => by rw [List.mem_singleton.mp hp]; exact e⟩
  · intro b hb
    rw [show b = s.heap.objs.size by simpa using hb]
    exact ⟨by simp, ktu_new F (Nat.le_refl _)⟩
  · intro b hb; simpa using hb
  · intro b hb; exact .inl (by simpa using hb)
  · intro hI'; exact Nat.ne_of_lt hLs (by simpa using hI')
  · intro p hp hI'; exact Nat.ne_of_lt (hI p hp) (by simpa using hI')
  · have go : ∀ (k i : Nat) m nw, i + k = n → J i m nw → ItemsRest prog w A E h₀ env (.Name x px) body Q s [(s.heap.objs.size, "range_iterator")] [] ((List.range' i k).map fun i : Nat => Itm.tok fun t => Value.int (a + (i : Int)) t) m nw := by
      intro k
      induction k with
      | zero =>
        intro i m nw e hj
        have e' : i = n := by omega
        subst e'
        exact fun h tk F N => done m nw h tk hj F N
      | succ k ih =>
        intro i m nw e hj
        rw [List.range'_succ, List.map_cons]
        refine ItemsRest.tok fun t h tk F => ?_
        refine AllObj.cons fun oi hoi => AllObj.nil fun N => ?_
        refine wpAny_mono (turn _ i t m nw h tk oi (by omega) hj hoi hI F N) (fun _ s₂ h₂ => wpAny_mono h₂ (fun f s₃ h₃ => unr_mono (fun m' n' hj' => ?_) h₃) fun _ _ e => e) fun _ _ e => e
        exact ⟨trivial, ih (i + 1) m' n' (by omega) hj'⟩
    rw [List.range_eq_range']
    exact go n 0 m₀ news (by omega) hj
end
end Mine
end

section
open PySem PySem.W PySem.Calls PyProof.Rows
namespace Mine
set_option maxRecDepth 100000
/-- how many cells a block has of its own -/
def nCells : List (Str × NameKind) → Nat
  | [] => 0
  | (_, k) :: r => (if k == .cell then 1 else 0) + nCells r
theorem pushCells_cells : ∀ (names : List (Str × NameKind)) (h : Heap) (j : Nat), j < nCells names → (pushCells h names).IsCell (h.objs.size + j) none
  | [], _, j, hj => absurd hj (Nat.not_lt_zero _)
  | (n, kd) :: r, h, j, hj => by
    unfold nCells at hj
    unfold pushCells
    by_cases hk : (kd == NameKind.cell) = true
    · rw [if_pos hk] at hj ⊢
      cases j with
      | zero => exact ⟨_, pushCells_keeps _ _ _ _ (Heap.get?_push_size _ rfl), rfl⟩
      | succ j =>
        have := pushCells_cells r (h.push { cls := .type "cell", data := .cell none }) j (by omega)
        rw [Heap.size_push] at this
        rw [show h.objs.size + (j + 1) = h.objs.size + 1 + j by omega]
        exact this
    · rw [if_neg hk] at hj ⊢
      exact pushCells_cells r h j (by omega)
theorem feOk_cells {M : Model} {A : Around} {scope : Scope} {env : Env} {cl : List (Str × Addr)} : FeOk M A scope env cl (nCells scope.names) fun C => cellsFrom (C + 1) scope.names cl := by
  intro s Q E h
  simp only [newFunctionEnv, Option.isSome_some, if_true]
  refine wpAny_bind (wpAny_alloc ?_)
  refine wpAny_bind (wpAny_layCells _ (fun name kind cells => by cases hkc : kind == NameKind.cell <;> simp) _ _ _ _ ?_)
  rw [show ({ s with heap := s.heap.push { cls := .type "dict", data := .dict #[] } } : Shared).heap.objs.size = s.heap.objs.size + 1 from Heap.size_push ..]
  refine wpAny_bind ?_
  rw [List.forIn_nil]
  refine wpAny_pure (wpAny_pure ?_)
  refine h _ s.toks ((Heap.Ns.new s.heap (.type "dict")).keeps (pushCells_keeps _ _)) (fun j hj => ?_) fun b o e => pushCells_keeps _ _ b o (Heap.get?_push_of_some _ e)
  have := pushCells_cells scope.names (s.heap.push { cls := .type "dict", data := .dict #[] }) j hj
  rw [Heap.size_push] at this
  exact this
section
variable {prog : Program} {w : World} {A : Around} {E : Value → Shared → Prop} {s : Shared}
abbrev GAsk (prog : Program) (w : World) (A : Around) (E : Value → Shared → Prop) (elt target : Expr) (ifs : List Expr) (scope : Scope) (k : Nat) (cellsOf : Addr → List (Str × Addr)) (env : Env) (use : Option (Value → Sem Unit)) (Q : Value → Shared → Prop) (J : Addr → Nat → List Value → Heap → Prop) (it : Value) (s₂ : Shared) : Prop :=
  CSrc prog w A target it s₂ fun _ wr n P =>
      (∀ C i v ys m₂ h tk (E' : Value → Shared → Prop), C = s₂.heap.objs.size + 1 → i < n → P i v h → J C i ys h → ys.length ≤ i → h.Ns C m₂ → (∀ j, j < k → ∃ v, h.IsCell (C + 1 + j) v) → (∀ b o, b ∉ wr → s₂.heap.get? b = some o → h.get? b = some o) →
        wpAny (model prog w) A (assign target (cenvOf (relabel scope env) env C (cellsOf C)) v) (fun _ s₃ =>
          wpAny (model prog w) A (forIn ifs true fun c r => if r = true then do let ok ← isTrue c (cenvOf (relabel scope env) env C (cellsOf C)) (eval c (cenvOf (relabel scope env) env C (cellsOf C))); pure (ForInStep.yield ok) else pure (ForInStep.yield r)) (fun ok s₄ =>
            if ok = true then wpAny (model prog w) A (eval elt (cenvOf (relabel scope env) env C (cellsOf C))) (fun y s₅ => CEnd C k s₂ h (J C (i + 1) (ys ++ [y])) s₅) E' s₄
            else CEnd C k s₂ h (J C (i + 1) ys) s₄) E' s₃) E' { s₂ with heap := h, toks := tk }) ∧
      (∀ D C ys m h tk, D = s₂.heap.objs.size → C = s₂.heap.objs.size + 1 → h.Ns C m → h.get? D = some (lst ys) → (∀ b o, b ∉ wr → s₂.heap.get? b = some o → h.get? b = some o) → J C n ys h →
        compPost (model prog w) A E use Q (.ref D) C (.ok .next) { s₂ with heap := h, toks := tk })
theorem lc_gen {elt target iter : Expr} {ifs : List Expr} {scope : Scope} {cl : List (Str × Addr)} {pos : Pos} {env : Env} {Q : Value → Shared → Prop} (k : Nat) (cellsOf : Addr → List (Str × Addr)) (J : Addr → Nat → List Value → Heap → Prop)
    (hclos : closureFor scope env = pure cl) (hkind : scope.kind = .function) (hnames : ∀ z ∈ scope.names, z.2 = .local → scope.names.lookup z.1 = some .local) (hfe : FeOk (model prog w) A scope env cl k cellsOf)
    (hJ0 : ∀ C h, J C 0 [] h) (hJm : ∀ C i ys h h', (∀ b o, C + k < b → h.get? b = some o → h'.get? b = some o) → J C i ys h → J C i ys h')
    (h : wpAny (model prog w) A (eval iter env) (fun xv s₁ => wpAny (model prog w) A (pyIter xv) (GAsk prog w A E elt target ifs scope k cellsOf env none Q J) E s₁) E s)
    (hs : ∀ x, foldedSetIterable iter env x = pure x := by intro _; rfl) :
    wpAny (model prog w) A (eval (.ListComp elt [⟨target, iter, ifs, 0⟩] scope pos) env) Q E s := by
  rw [eval_ListComp]
  exact comp_gen k cellsOf J hclos hkind hnames hs hfe hJ0 hJm h
theorem lc_assign_gen {elt target iter : Expr} {y : Str} {py : Pos} {ifs : List Expr} {scope : Scope} {cl : List (Str × Addr)} {pos spos : Pos} {env : Env} {Q : Flow → Shared → Prop} (k : Nat) (cellsOf : Addr → List (Str × Addr)) (J : Addr → Nat → List Value → Heap → Prop)
    (hsw : swapsWith (.ListComp elt [⟨target, iter, ifs, 0⟩] scope pos) (some (.Name y py)) spos.line env = pure true)
    (hclos : closureFor scope env = pure cl) (hkind : scope.kind = .function) (hnames : ∀ z ∈ scope.names, z.2 = .local → scope.names.lookup z.1 = some .local) (hfe : FeOk (model prog w) A scope env cl k cellsOf)
    (hJ0 : ∀ C h, J C 0 [] h) (hJm : ∀ C i ys h h', (∀ b o, C + k < b → h.get? b = some o → h'.get? b = some o) → J C i ys h → J C i ys h')
    (h : wpAny (model prog w) A (eval iter env) (fun xv s₁ => wpAny (model prog w) A (pyIter xv) (GAsk prog w A E elt target ifs scope k cellsOf env (some (assign (.Name y py) env)) (fun _ s' => Q .next s') J) E s₁) E s)
    (hs : ∀ x, foldedSetIterable iter env x = pure x := by intro _; rfl) :
    wpAny (model prog w) A (exec (.Assign [.Name y py] (.ListComp elt [⟨target, iter, ifs, 0⟩] scope pos) spos) env) Q E s := by
  rw [exec_Assign_Name_used _ _ _ _ hsw]
  refine wpAny_bind (wpAny_standAt (wpAny_bind ?_))
  show wpAny _ A (do let _ ← comprehension (.ListComp elt [⟨target, iter, ifs, 0⟩] scope pos) scope env _ (newList []) false (eval iter env) (some (assign (.Name y py) env))) _ _ s
  exact wpAny_bind (wpAny_mono (comp_gen (use := some (assign (.Name y py) env)) (Q := fun _ s' => Q .next s') k cellsOf J hclos hkind hnames hs hfe hJ0 hJm h) (fun _ s' hq => wpAny_pure (wpAny_pure hq)) fun _ _ e => e)
/-- a turn over enumerate -/
abbrev ETurn (prog : Program) (w : World) (A : Around) (s₁ s : Shared) (elt : Expr) (a x : Str) (ifs : List Expr) (scope : Scope) (cl : List (Str × Addr)) (env : Env) (J : Addr → Nat → List Value → Heap → Prop) (its : Array Value) : Prop :=
  ∀ C i t v ys m₂ h tk base keepL (E' : Value → Shared → Prop), s.heap.objs.size < C → i < its.size → its[i]? = some v → J C i ys h → ys.length ≤ i → m₂ a = some (.int i t) → m₂ x = some v → Fr base C h m₂ → News base C h keepL → Ext s.heap base → (∀ b o, C < b → h.get? b = some o → (b, o) ∈ keepL) →
    wpAny (model prog w) A (forIn ifs true fun c r => if r = true then do let ok ← isTrue c (compEnvC scope cl C env) (eval c (compEnvC scope cl C env)); pure (ForInStep.yield ok) else pure (ForInStep.yield r)) (fun ok s₄ =>
      if ok = true then wpAny (model prog w) A (eval elt (compEnvC scope cl C env)) (fun y s₅ => WEnd base C keepL s₁ (J C (i + 1) (ys ++ [y])) s₅) E' s₄
      else WEnd base C keepL s₁ (J C (i + 1) ys) s₄) E' { s₁ with heap := h, toks := tk }
theorem ask_enum {elt : Expr} {a x : Str} {pa px tp : Pos} {kk : Nat} {ifs : List Expr} {scope : Scope} {cl : List (Str × Addr)} {env : Env} {use : Option (Value → Sem Unit)} {Q : Value → Shared → Prop} {J : Addr → Nat → List Value → Heap → Prop} {l : Addr} {its : Array Value}
    (hkind : scope.kind = .function) (ha : scope.names.lookup a = some .local) (hx : scope.names.lookup x = some .local) (hax : a ≠ x)
    (hJm : ∀ C i ys h h', (∀ b o, C < b → h.get? b = some o → h'.get? b = some o) → J C i ys h → J C i ys h')
    (hh : A.handled = none) (hl : s.heap.IsList l its) (hsz : its.size ≤ sizeLine)
    (turn : ∀ g, ETurn prog w A { s with heap := g } s elt a x ifs scope cl env J its) (done : ∀ g, NDone prog w A E { s with heap := g } s use Q J its.size) :
    wpAny (model prog w) A (call (.type "enumerate") [.ref l]) (fun xv s₁ => wpAny (model prog w) A (pyIter xv) (GAsk prog w A E elt (.Tuple [.Name a pa, .Name x px] kk tp) ifs scope 0 (fun _ => cl) env use Q J) E s₁) E s := by
  have hlt : l < s.heap.objs.size := by obtain ⟨_, e, _⟩ := hl; exact Heap.lt_size e
  refine call_enumerate_list hl fun h' hE hI hsz2 hk => ?_
  refine wpAny_pyIter_enum hE ?_
  have W := (WalksT.enumerate (prog := prog) (w := w) (A := A) hh (s.heap.objs.size + 1) s.heap.objs.size l (Nat.succ_ne_self _) (Nat.ne_of_lt (Nat.lt_succ_of_lt hlt)) (Nat.ne_of_lt hlt) its)
  have hsz3 : s.heap.objs.size + 2 = h'.objs.size := hsz2.symm
  refine ⟨_, _, _, _, _, _, _, rfl, KTurns.ofWalksU (elts := [.Name a pa, .Name x px]) (k := kk) (pos := tp) W.toU, hsz, ⟨⟨.none, hE⟩, hI, hl.at fun o e => hk l o e⟩, fun b hb => ?_, fun g tk Q E' st hq => W.self 0 _ _ _ st hq, ?_, ?_⟩
  · show b < h'.objs.size
    rw [hsz2]
    have hb' : b = s.heap.objs.size + 1 ∨ b = s.heap.objs.size ∨ b = l := by simpa using hb
    rcases hb' with rfl | rfl | rfl
    · exact Nat.lt_succ_self _
    · exact Nat.lt_succ_of_lt (Nat.lt_succ_self _)
    · exact Nat.lt_succ_of_lt (Nat.lt_succ_of_lt hlt)
  · rintro C i v ys m₂ h tk E' hC hi ⟨T, vals, rfl, ⟨t, xv, hxv, rfl⟩, hT⟩ hJ hyl hn _ ho
    dsimp only at hC ho ⊢
    have hp : ((cenvOf (relabel scope env) env C cl).scope.kind == .class || ((cenvOf (relabel scope env) env C cl).scope.kind == .module && (cenvOf (relabel scope env) env C cl).locals != (cenvOf (relabel scope env) env C cl).globals)) = false := by
      simp [cenvOf, relabel, hkind]
    refine assign_Tuple_tuple hh (show IsTup h T #[.int i t, xv] from hT) rfl rfl fun h₅ he => ?_
    have he' : ∀ b o, h.get? b = some o → h₅.get? b = some o := fun b o e => he b o (Nat.ne_of_lt (Heap.lt_size e)) e
    refine assignInOrder_cons (wpAny_assign_Name (wpAny_storeName_local (lookup_relabel_local ha) (hn.at' fun o e => he' _ o e) (fun h₆ hn₆ hs₆ => ?_) hp))
    refine assignInOrder_cons (wpAny_assign_Name (wpAny_storeName_local (lookup_relabel_local hx) hn₆ (fun h₃ hn₃ hs₃ => ?_) hp))
    refine assignInOrder_nil ?_
    have old3 : ∀ b o, b ≠ C → h.get? b = some o → h₃.get? b = some o := fun b o hb e => hs₃.extBut b o hb (hs₆.extBut b o hb (he' b o e))
    have hJ₃ : J C i ys h₃ := hJm _ _ _ _ _ (fun b o hb e => old3 b o (Nat.ne_of_gt hb) e) hJ
    have base_ok : Ext s.heap (trunc h₃ C) := fun (b : Nat) o e => by
      have hbs : b < s.heap.objs.size := Heap.lt_size e
      have hlt2 : b < C := by omega
      exact bridge_low b o hlt2 (old3 b o (Nat.ne_of_lt hlt2) (ho b o (by simp only [List.mem_cons, List.not_mem_nil, or_false, not_or]; exact ⟨neLt (by omega), neLt hbs⟩) (hk b o e)))
    have T := turn h' C i t xv ys _ h₃ (tk + 1 + 1) (trunc h₃ C) (restOf h₃ C) E' (by omega) hi hxv hJ₃ hyl (by simp [hax]) (by simp) (bridge_fr hn₃) bridge_news base_ok (fun b o hb e => restOf_mem.mpr ⟨hb, e⟩)
    have sb : ∀ (K : Heap → Prop) s₅, WEnd (trunc h₃ C) C (restOf h₃ C) { s with heap := h' } K s₅ → CEnd C 0 { s with heap := h' } h K s₅ := fun K s₅ x => by
      obtain ⟨g', tk', m', a1, a2, a3, a4, a5⟩ := cend_of_wend (k := 0) (fun j hj => absurd hj (Nat.not_lt_zero _)) x
      exact ⟨g', tk', m', a1, a2, a3, fun (b : Nat) o hb e => a4 b o hb (old3 b o (by rcases hb with hb | hb; exact Nat.ne_of_lt hb; exact Nat.ne_of_gt (by simpa using hb)) e), a5⟩
    refine wpAny_mono T (fun ok s₄ t₄ => ?_) fun _ _ e => e
    cases ok with
    | false => exact sb _ _ t₄
    | true => exact wpAny_mono t₄ (fun y s₅ t₅ => sb _ _ t₅) fun _ _ e => e
  · rintro D C ys m h tk hD hC hn hd ho hJ
    dsimp only at hD hC ho ⊢
    refine done h' D C ys m h tk (by omega) (by rw [hD, hC]; exact Nat.lt_succ_self _) hn hd (fun (b : Nat) o e => ho b o ?_ (hk b o e)) hJ
    have hbs : b < s.heap.objs.size := Heap.lt_size e
    simp only [List.mem_cons, List.not_mem_nil, or_false, not_or]
    exact ⟨neLt (by omega), neLt hbs⟩
/-- a turn over a name that the block holds in a cell -/
abbrev CTurn (prog : Program) (w : World) (A : Around) (s₁ s : Shared) (elt : Expr) (ifs : List Expr) (scope : Scope) (cellsOf : Addr → List (Str × Addr)) (env : Env) (J : Addr → Nat → List Value → Heap → Prop) (its : Array Value) : Prop :=
  ∀ C i v ys m₂ h tk base keepL oc (E' : Value → Shared → Prop), s.heap.objs.size < C → i < its.size → its[i]? = some v → J C i ys h → ys.length ≤ i → (C + 1, oc) ∈ keepL → oc.data = .cell (some v) → Fr base C h m₂ → News base C h keepL → Ext s.heap base → (∀ b o, C < b → h.get? b = some o → (b, o) ∈ keepL) →
    wpAny (model prog w) A (forIn ifs true fun c r => if r = true then do let ok ← isTrue c (compEnvC scope (cellsOf C) C env) (eval c (compEnvC scope (cellsOf C) C env)); pure (ForInStep.yield ok) else pure (ForInStep.yield r)) (fun ok s₄ =>
      if ok = true then wpAny (model prog w) A (eval elt (compEnvC scope (cellsOf C) C env)) (fun y s₅ => WEnd base C keepL s₁ (J C (i + 1) (ys ++ [y])) s₅) E' s₄
      else WEnd base C keepL s₁ (J C (i + 1) ys) s₄) E' { s₁ with heap := h, toks := tk }
theorem ask_cells {elt : Expr} {x : Str} {px : Pos} {ifs : List Expr} {scope : Scope} {cellsOf : Addr → List (Str × Addr)} {env : Env} {use : Option (Value → Sem Unit)} {Q : Value → Shared → Prop} {J : Addr → Nat → List Value → Heap → Prop} {ax : Addr} {its : Array Value}
    (hkind : ∀ C, (compEnvC scope (cellsOf C) C env).scope.kind = .function) (hx : ∀ C, (compEnvC scope (cellsOf C) C env).kindOf x = some .cell) (hcl : ∀ C, (cellsOf C).lookup x = some (C + 1))
    (hJm : ∀ C i ys h h', (∀ b o, C + 1 < b → h.get? b = some o → h'.get? b = some o) → J C i ys h → J C i ys h')
    (hh : A.handled = none) (hl : s.heap.IsList ax its) (hsz : its.size ≤ sizeLine)
    (turn : ∀ g, CTurn prog w A { s with heap := g } s elt ifs scope cellsOf env J its) (done : ∀ g, NDone prog w A E { s with heap := g } s use Q J its.size) :
    wpAny (model prog w) A (pyIter (.ref ax)) (GAsk prog w A E elt (.Name x px) ifs scope 1 cellsOf env use Q J) E s := by
  refine wpAny_pyIter_list hl ?_
  have hlt : ax < s.heap.objs.size := by obtain ⟨_, e, _⟩ := hl; exact Heap.lt_size e
  have W := Walks.list (prog := prog) (w := w) hh s.heap.objs.size ax (Nat.ne_of_lt hlt) its
  have up : Ext s.heap (s.heap.push { cls := .type "list_iterator", data := .fields #[.ref ax, .int 0 0] }) := fun b o e => Heap.get?_push_of_some _ e
  have hz : (s.heap.push { cls := .type "list_iterator", data := .fields #[.ref ax, .int 0 0] }).objs.size = s.heap.objs.size + 1 := Heap.size_push ..
  refine ⟨_, _, _, _, _, _, _, rfl, KTurns.ofWalks W (fun i v s' Q E' _ hq => wpAny_pure hq), hsz, ⟨⟨_, Heap.get?_push_size _ rfl, rfl, rfl⟩, hl.push _⟩, fun b hb => ?_, fun h' tk Q E' st hq => W.self 0 _ _ _ st hq, ?_, ?_⟩
  · show b < (s.heap.push _).objs.size
    rw [Heap.size_push]
    rcases List.mem_cons.mp hb with rfl | hb
    · exact Nat.lt_succ_self _
    · rw [List.mem_singleton.mp hb]; exact Nat.lt_succ_of_lt hlt
  · rintro C i v ys m₂ h tk E' hC hi hP hJ hyl hn hcs ho
    dsimp only at hC ho ⊢
    rw [hz] at hC
    obtain ⟨v0, hc0⟩ := hcs 0 Nat.one_pos
    refine wpAny_assign_Name (wpAny_storeName_cell (hkind C) (hx C) (hcl C) hc0 (fun h₃ hc₃ hs₃ => ?_))
    obtain ⟨oc, hoc, hod⟩ := hc₃
    have old3 : ∀ b o, b ≠ C + 1 → h.get? b = some o → h₃.get? b = some o := fun b o hb e => hs₃.extBut b o hb e
    have hn₃ : h₃.Ns C m₂ := hn.at' fun o e => old3 _ o (Nat.ne_of_lt (Nat.lt_succ_self _)) e
    have hJ₃ : J C i ys h₃ := hJm _ _ _ _ _ (fun b o hb e => old3 b o (Nat.ne_of_gt hb) e) hJ
    have base_ok : Ext s.heap (trunc h₃ C) := fun (b : Nat) o e => by
      have hbs : b < s.heap.objs.size := Heap.lt_size e
      have hlt2 : b < C := by omega
      exact bridge_low b o hlt2 (old3 b o (neLt (by omega)) (ho b o (fun hm => absurd hbs (by rw [List.mem_singleton.mp hm]; exact Nat.lt_irrefl _)) (up b o e)))
    have T := turn (s.heap.push { cls := .type "list_iterator", data := .fields #[.ref ax, .int 0 0] }) C i v ys m₂ h₃ tk (trunc h₃ C) (restOf h₃ C) oc E' (by omega) hi hP hJ₃ hyl (restOf_mem.mpr ⟨Nat.lt_succ_self _, hoc⟩) hod (bridge_fr hn₃) bridge_news base_ok (fun b o hb e => restOf_mem.mpr ⟨hb, e⟩)
    have sb : ∀ (K : Heap → Prop) s₅, WEnd (trunc h₃ C) C (restOf h₃ C) { s with heap := s.heap.push { cls := .type "list_iterator", data := .fields #[.ref ax, .int 0 0] } } K s₅ → CEnd C 1 { s with heap := s.heap.push { cls := .type "list_iterator", data := .fields #[.ref ax, .int 0 0] } } h K s₅ := fun K s₅ x => by
      obtain ⟨g', tk', m', a1, a2, a3, a4, a5⟩ := cend_of_wend (k := 1) (fun j hj => by obtain rfl : j = 0 := by omega
                                                                                        exact ⟨_, oc, hoc, hod⟩) x
      exact ⟨g', tk', m', a1, a2, a3, fun (b : Nat) o hb e => a4 b o hb (old3 b o (by rcases hb with hb | hb; exact neLt (by omega); exact Nat.ne_of_gt hb) e), a5⟩
    refine wpAny_mono T (fun ok s₄ t₄ => ?_) fun _ _ e => e
    cases ok with
    | false => exact sb _ _ t₄
    | true => exact wpAny_mono t₄ (fun y s₅ t₅ => sb _ _ t₅) fun _ _ e => e
  · rintro D C ys m h tk hD hC hn hd ho hJ
    dsimp only at hD hC ho ⊢
    rw [hz] at hD hC
    refine done (s.heap.push { cls := .type "list_iterator", data := .fields #[.ref ax, .int 0 0] }) D C ys m h tk (by omega) (by rw [hD, hC]; exact Nat.lt_succ_self _) hn hd (fun (b : Nat) o e => ho b o ?_ (up b o e)) hJ
    have hbs : b < s.heap.objs.size := Heap.lt_size e
    exact fun hm => absurd hbs (by rw [List.mem_singleton.mp hm]; exact Nat.lt_irrefl _)
theorem ld_compcellN {base : Heap} {C c : Addr} {o : Obj} {keepL : List (Addr × Obj)} {x : Str} {v : Value} {pos : Pos} {scope : Scope} {cl : List (Str × Addr)} {env : Env} {Q : Value → Shared → Prop} {M : Model} (N : News base C s.heap keepL) (hc : cl.lookup x = some c) (hb : (c, o) ∈ keepL) (hd : o.data = .cell (some v)) (h : Q v s)
    (hk : (compEnvC scope cl C env).scope.kind = .function := by rfl) (hl : (compEnvC scope cl C env).kindOf x = some .cell := by rfl) (hn : (x == ("__debug__" : Str)) = false := by decide) :
    wpAny M A (eval (.Name x pos) (compEnvC scope cl C env)) Q E s := wpAny_Name (wpAny_loadName_cell hk hl hc ⟨o, N.get hb, hd⟩ h) hn
theorem eq_nil_true {a b : Addr} {Q : Value → Shared → Prop} (ha : s.heap.IsList a #[]) (hb : s.heap.IsList b #[]) (hu : A.units < cLine) (h : Q (.bool true) s) :
    wpAny (model prog w) A (compareOp .Eq (.ref a) (.ref b)) Q E s :=
  SeqAt.RcAt.lists (e := fun _ => true) ha hb rfl hu (fun _ h1 _ => absurd h1 (Nat.not_lt_zero _)) prog w E Q h
theorem eq_nil_false {a b : Addr} {xs : List Value} {Q : Value → Shared → Prop} (ha : s.heap.IsList a xs.toArray) (hne : xs ≠ []) (hb : s.heap.IsList b #[]) (hu : A.units < cLine) (h : Q (.bool false) s) :
    wpAny (model prog w) A (compareOp .Eq (.ref a) (.ref b)) Q E s :=
  SeqAt.RcAt.lists_lengths ha hb (by cases xs with
    | nil => exact absurd rfl hne
    | cons x xs => simp) hu prog w E Q h
end
end Mine
end

section
open PySem PySem.W PySem.Calls PyProof.Rows
namespace Mine
set_option maxRecDepth 100000
section
variable {prog : Program} {w : World} {A : Around} {E : Value → Shared → Prop} {s : Shared}
/-- for a, b in enumerate(list): by what holds ahead of the i-th turn -/
theorem enum_invI {env : Env} {h₀ : Heap} {body : List Stmt} {Q : Flow → Shared → Prop} {elts : List Expr} {k : Nat} {pos : Pos} {l : Addr} {lo : Obj} {vs : List Value} {n : Nat} {m₀ : Str → Option Value} {news : List (Addr × Obj)} (J : Addr → Nat → (Str → Option Value) → List (Addr × Obj) → Prop)
    (hh : A.handled = none) (F : Fr h₀ env.locals s.heap m₀) (N : News h₀ env.locals s.heap news) (hm : (l, lo) ∈ news) (hc : lo.cls = .type "list") (hd : lo.data = .seq vs.toArray n)
    (hj : ∀ I : Addr, (∀ p ∈ news, p.1 < I) → J I 0 m₀ news) (hkeep : ∀ I i m nw, J I i m nw → (l, lo) ∈ nw)
    (turn : ∀ (I : Addr) i x T t m₁ nw h tk oe oi, i < vs.length → vs[i]? = some x → J I i m₁ nw → IsTup h T #[.int (i : Nat) t, x] → oe.cls = .type "enumerate" → oi.cls = .type "list_iterator" → (∀ p ∈ news, p.1 < I) → Fr h₀ env.locals h m₁ → News h₀ env.locals h ((I + 1, oe) :: (I, oi) :: nw) →
      wpAny (model prog w) A (assign (.Tuple elts k pos) env (.ref T)) (fun _ s₂ => wpAny (model prog w) A (execs body env) (UnrPostW h₀ env.locals { s with heap := h, toks := tk } [(I + 1, oe), (I, oi)] (J I (i + 1)) Q) E s₂) E { s with heap := h, toks := tk })
    (done : ∀ (I : Addr) m₁ nw h tk, J I vs.length m₁ nw → Fr h₀ env.locals h m₁ → News h₀ env.locals h nw → Q .next { s with heap := h, toks := tk }) :
    wpAny (model prog w) A (call (.type "enumerate") [.ref l]) (fun xv s₁ => wpAny (model prog w) A (pyIter xv) (fun it s₂ => TurnsAt prog w A h₀ env (.Tuple elts k pos) body Q E it s₂) E s₁) E s := by
  refine ktu_enum hh F N hm hc hd rfl fun I hI => ?_
  have go : ∀ (r : List Value) (i : Nat) m nw, i ≤ vs.length → r = vs.drop i → J I i m nw → ItemsRest prog w A E h₀ env (.Tuple elts k pos) body Q s [(I + 1, "enumerate"), (I, "list_iterator")] [(l, lo)] (enumItems i r) m nw := by
    intro r
    induction r with
    | nil =>
      intro i m nw hi e hj
      have hle : vs.length ≤ i := by
        have := congrArg List.length e
        rw [List.length_nil, List.length_drop] at this
        omega
      obtain rfl : i = vs.length := by omega
      exact fun h tk F N => done I m nw h tk hj F N
    | cons x r ih =>
      intro i m nw hi e hj
      have hlt : i < vs.length := by
        have := congrArg List.length e
        rw [List.length_cons, List.length_drop] at this
        omega
      have hx : vs[i]? = some x := by
        have := congrArg (fun l => l[0]?) e
        simpa using this.symm
      have hr : r = vs.drop (i + 1) := by
        have := congrArg List.tail e
        simpa using this
      show ItemsRest prog w A E h₀ env (.Tuple elts k pos) body Q s [(I + 1, "enumerate"), (I, "list_iterator")] [(l, lo)] (.pair (fun t => .int ((i : Nat) : Int) t) x :: enumItems (i + 1) r) m nw
      refine ItemsRest.pair fun T t h tk hT F => ?_
      refine AllObj.cons fun oe hoe => AllObj.cons fun oi hoi => AllObj.nil fun N => ?_
      refine wpAny_mono (turn I i x T t m nw h tk oe oi hlt hx hj hT hoe hoi hI F N) (fun _ s₂ h₂ => wpAny_mono h₂ (fun f s₃ h₃ => unr_mono (fun m' n' hj' => ?_) h₃) fun _ _ e => e) fun _ _ e => e
      exact ⟨⟨hkeep _ _ _ _ hj', trivial⟩, ih (i + 1) m' n' hlt hr hj'⟩
  exact go vs 0 m₀ news (Nat.zero_le _) (by simp) (hj I hI)
/-- for x in range(a, ..): by what holds ahead of the i-th turn -/
theorem range_invI {env : Env} {h₀ : Heap} {body : List Stmt} {Q : Flow → Shared → Prop} {x : Str} {px : Pos} {r : Addr} {a b : Int} {t u v : Tok} {n : Nat} {m₀ : Str → Option Value} {news : List (Addr × Obj)} (J : Addr → Nat → (Str → Option Value) → List (Addr × Obj) → Prop)
    (hh : A.handled = none) (F : Fr h₀ env.locals s.heap m₀) (N : News h₀ env.locals s.heap news) (hr : IsRange s.heap r a b 1 t u v) (hsm : Builtin.Range.small a b 1 = true) (hn : Builtin.Range.rangeSize a b 1 = ((n : Nat) : Int))
    (hj : ∀ I : Addr, (∀ p ∈ news, p.1 < I) → J I 0 m₀ news)
    (turn : ∀ (I : Addr) i t m₁ nw h tk oi, i < n → J I i m₁ nw → oi.cls = .type "range_iterator" → (∀ p ∈ news, p.1 < I) → Fr h₀ env.locals h m₁ → News h₀ env.locals h ((I, oi) :: nw) →
      wpAny (model prog w) A (assign (.Name x px) env (.int (a + (i : Int)) t)) (fun _ s₂ => wpAny (model prog w) A (execs body env) (UnrPostW h₀ env.locals { s with heap := h, toks := tk } [(I, oi)] (J I (i + 1)) Q) E s₂) E { s with heap := h, toks := tk })
    (done : ∀ (I : Addr) m₁ nw h tk, J I n m₁ nw → Fr h₀ env.locals h m₁ → News h₀ env.locals h nw → Q .next { s with heap := h, toks := tk }) :
    wpAny (model prog w) A (pyIter (.ref r)) (fun it s₂ => TurnsAt prog w A h₀ env (.Name x px) body Q E it s₂) E s := by
  have hLs : @LT.lt Nat _ env.locals s.heap.objs.size := F.ns.lt
  refine wpAny_pyIter_range hr hsm ?_
  have W := LCg.range_walks (prog := prog) (w := w) (I := s.heap.objs.size) hh a n
  have hI : ∀ p ∈ news, @LT.lt Nat _ p.1 s.heap.objs.size := fun p hp => Heap.lt_size (N p hp).1
  refine ktu_core (s := s) (tk0 := s.toks) (keep := []) (ws := [(s.heap.objs.size, "range_iterator")]) (xs := (List.range n).map fun i : Nat => Itm.tok fun t => Value.int (a + (i : Int)) t) (KTurns.ofWalks (walksLt W) (fun i v s' Q E' _ hq => wpAny_pure hq)) (by simp) ?_ ?_ ?_ ?_ ?_ ?_ ?_ (by show IsRangeIter _ _ _ _ _; rw [hn]; simpa using Heap.get?_push_size _ rfl) (F.push _) (fun p hp => ⟨Heap.get?_push_of_some _ (N p hp).1, (N p hp).2⟩) trivial ?_
  · rintro i v' h ⟨hi, t', rfl⟩
    exact ⟨Itm.tok fun t => Value.int (a + (i : Int)) t, by rw [List.getElem?_map, List.getElem?_range hi]; rfl, t', rfl⟩
  · rintro i h hI'
    obtain ⟨oi, e, hc⟩ : ∃ oi : Obj, h.get? s.heap.objs.size = some oi ∧ oi.cls = .type "range_iterator" := ⟨_, hI', rfl⟩
    exact ⟨[(s.heap.objs.size, oi)], ⟨⟨rfl, hc⟩, trivial⟩, fun p hp => by rw [List.mem_singleton.mp hp]; exact e⟩
  · intro b hb
    rw [show b = s.heap.objs.size by simpa using hb]
    exact ⟨by simp, ktu_new F (Nat.le_refl _)⟩
  · intro b hb; simpa using hb
  · intro b hb; exact .inl (by simpa using hb)
  · intro hI'; exact Nat.ne_of_lt hLs (by simpa using hI')
  · intro p hp hI'; exact Nat.ne_of_lt (hI p hp) (by simpa using hI')
  · have go : ∀ (k i : Nat) m nw, i + k = n → J s.heap.objs.size i m nw → ItemsRest prog w A E h₀ env (.Name x px) body Q s [(s.heap.objs.size, "range_iterator")] [] ((List.range' i k).map fun i : Nat => Itm.tok fun t => Value.int (a + (i : Int)) t) m nw := by
      intro k
      induction k with
      | zero =>
        intro i m nw e hj
        have e' : i = n := by omega
        subst e'
        exact fun h tk F N => done s.heap.objs.size m nw h tk hj F N
      | succ k ih =>
        intro i m nw e hj
        rw [List.range'_succ, List.map_cons]
        refine ItemsRest.tok fun t h tk F => ?_
        refine AllObj.cons fun oi hoi => AllObj.nil fun N => ?_
        refine wpAny_mono (turn _ i t m nw h tk oi (by omega) hj hoi hI F N) (fun _ s₂ h₂ => wpAny_mono h₂ (fun f s₃ h₃ => unr_mono (fun m' n' hj' => ?_) h₃) fun _ _ e => e) fun _ _ e => e
        exact ⟨trivial, ih (i + 1) m' n' (by omega) hj'⟩
    rw [List.range_eq_range']
    exact go n 0 m₀ news (by omega) (hj s.heap.objs.size hI)
/-- for x in a list of the ledger, by what holds ahead of the i-th turn -/
theorem list_invI {env : Env} {h₀ : Heap} {body : List Stmt} {target : Expr} {Q : Flow → Shared → Prop} {l : Addr} {lo : Obj} {vs : List Value} {n : Nat} {m₀ : Str → Option Value} {news : List (Addr × Obj)} (J : Addr → Nat → (Str → Option Value) → List (Addr × Obj) → Prop)
    (hh : A.handled = none) (F : Fr h₀ env.locals s.heap m₀) (N : News h₀ env.locals s.heap news) (hm : (l, lo) ∈ news) (hc : lo.cls = .type "list") (hd : lo.data = .seq vs.toArray n)
    (hj : ∀ I : Addr, (∀ p ∈ news, p.1 < I) → J I 0 m₀ news) (hkeep : ∀ I i m nw, J I i m nw → (l, lo) ∈ nw)
    (turn : ∀ (I : Addr) i x m₁ nw h tk oi, i < vs.length → vs[i]? = some x → J I i m₁ nw → oi.cls = .type "list_iterator" → (∀ p ∈ news, p.1 < I) → Fr h₀ env.locals h m₁ → News h₀ env.locals h ((I, oi) :: nw) →
      wpAny (model prog w) A (assign target env x) (fun _ s₂ => wpAny (model prog w) A (execs body env) (UnrPostW h₀ env.locals { s with heap := h, toks := tk } [(I, oi)] (J I (i + 1)) Q) E s₂) E { s with heap := h, toks := tk })
    (done : ∀ (I : Addr) m₁ nw h tk, J I vs.length m₁ nw → Fr h₀ env.locals h m₁ → News h₀ env.locals h nw → Q .next { s with heap := h, toks := tk }) :
    wpAny (model prog w) A (pyIter (.ref l)) (fun it s₂ => TurnsAt prog w A h₀ env target body Q E it s₂) E s := by
  refine iter_listTurns hh F N hm hc hd fun I hI => ?_
  have go : ∀ (r : List Value) (i : Nat) m nw, i ≤ vs.length → r = vs.drop i → J I i m nw → ItemsRest prog w A E h₀ env target body Q s [(I, "list_iterator")] [(l, lo)] (r.map .val) m nw := by
    intro r
    induction r with
    | nil =>
      intro i m nw hi e hj
      have hle : vs.length ≤ i := by
        have := congrArg List.length e
        rw [List.length_nil, List.length_drop] at this
        omega
      obtain rfl : i = vs.length := by omega
      exact fun h tk F N => done I m nw h tk hj F N
    | cons x r ih =>
      intro i m nw hi e hj
      have hlt : i < vs.length := by
        have := congrArg List.length e
        rw [List.length_cons, List.length_drop] at this
        omega
      have hx : vs[i]? = some x := by
        have := congrArg (fun l => l[0]?) e
        simpa using this.symm
      have hr : r = vs.drop (i + 1) := by
        have := congrArg List.tail e
        simpa using this
      show ItemsRest prog w A E h₀ env target body Q s [(I, "list_iterator")] [(l, lo)] (.val x :: r.map .val) m nw
      refine ItemsRest.val fun h tk F => ?_
      refine AllObj.cons fun oi hoi => AllObj.nil fun N => ?_
      refine wpAny_mono (turn I i x m nw h tk oi hlt hx hj hoi hI F N) (fun _ s₂ h₂ => wpAny_mono h₂ (fun f s₃ h₃ => unr_mono (fun m' n' hj' => ?_) h₃) fun _ _ e => e) fun _ _ e => e
      exact ⟨⟨hkeep _ _ _ _ hj', trivial⟩, ih (i + 1) m' n' hlt hr hj'⟩
  exact go vs 0 m₀ news (Nat.zero_le _) (by simp) (hj I hI)
end
end Mine
end

section
open PySem PySem.W PySem.Calls PyProof.Rows
namespace Mine
set_option maxRecDepth 100000
theorem re_plain : PlainAttrs "re.Pattern" :=
  ⟨⟨"object.__getattribute__", by rw [typeLookup_type, builtinLookup_eq_fast]; kernel_rfl, by decide +kernel⟩, by rw [typeLookup_type, builtinLookup_eq_fast]; kernel_rfl⟩
theorem rm_plain : PlainAttrs "re.Match" :=
  ⟨⟨"object.__getattribute__", by rw [typeLookup_type, builtinLookup_eq_fast]; kernel_rfl, by decide +kernel⟩, by rw [typeLookup_type, builtinLookup_eq_fast]; kernel_rfl⟩
theorem re_search_slot : Slot "re.Pattern" "search" "re.Pattern.search" :=
  .of (owner := "re.Pattern") (n := "search") (by rw [typeLookup_type, builtinLookup_eq_fast]; kernel_rfl) (by decide +kernel) (by decide +kernel) (by decide +kernel)
    (by first | exact .inl (by decide +kernel) | exact .inr (by decide +kernel)) (by rw [isSubtype_type]; kernel_rfl)
theorem re_sub_slot : Slot "re.Pattern" "sub" "re.Pattern.sub" :=
  .of (owner := "re.Pattern") (n := "sub") (by rw [typeLookup_type, builtinLookup_eq_fast]; kernel_rfl) (by decide +kernel) (by decide +kernel) (by decide +kernel)
    (by first | exact .inl (by decide +kernel) | exact .inr (by decide +kernel)) (by rw [isSubtype_type]; kernel_rfl)
theorem rm_group_slot : Slot "re.Match" "group" "re.Match.group" :=
  .of (owner := "re.Match") (n := "group") (by rw [typeLookup_type, builtinLookup_eq_fast]; kernel_rfl) (by decide +kernel) (by decide +kernel) (by decide +kernel)
    (by first | exact .inl (by decide +kernel) | exact .inr (by decide +kernel)) (by rw [isSubtype_type]; kernel_rfl)
theorem re_search_type : typeOf (.builtin "re.Pattern.search") = pure (.type "method_descriptor") := by show builtinType _ = _; rw [builtinType_eq_fast]; kernel_rfl
theorem re_sub_type : typeOf (.builtin "re.Pattern.sub") = pure (.type "method_descriptor") := by show builtinType _ = _; rw [builtinType_eq_fast]; kernel_rfl
theorem rm_group_type : typeOf (.builtin "re.Match.group") = pure (.type "method_descriptor") := by show builtinType _ = _; rw [builtinType_eq_fast]; kernel_rfl
theorem re_search_entry : entryFor table "re.Pattern.search" = some Builtin.«re.Pattern.search» := entryFor_of_tree (by kernel_rfl)
theorem re_sub_entry : entryFor table "re.Pattern.sub" = some Builtin.«re.Pattern.sub» := entryFor_of_tree (by kernel_rfl)
theorem re_loop_entry : entryFor table "re.Pattern.sub.loop" = some Builtin.«re.Pattern.sub.loop» := entryFor_of_tree (by kernel_rfl)
theorem rm_group_entry : entryFor table "re.Match.group" = some Builtin.«re.Match.group» := entryFor_of_tree (by kernel_rfl)
theorem re_search_args (a b : Value) : argsOk "re.Pattern.search" ⟨[a, b], []⟩ := by unfold argsOk; kernel_rfl
theorem re_sub_args (a b c : Value) : argsOk "re.Pattern.sub" ⟨[a, b, c], []⟩ := by unfold argsOk; kernel_rfl
theorem rm_group_args (a b : Value) : argsOk "re.Match.group" ⟨[a, b], []⟩ := by unfold argsOk; kernel_rfl
end Mine
end

section
open PySem PySem.W PySem.Calls PyProof.Rows PySem.Builtin.Re
namespace Mine
set_option maxRecDepth 100000
theorem runFor_done {m : Sre.M} (h : m.outcome.isSome = true) : ∀ n, m.runFor n = m
  | 0 => rfl
  | n + 1 => by show (if m.outcome.isSome then m else _) = m; rw [if_pos h]
theorem runFor_add : ∀ (a b : Nat) (m : Sre.M), m.runFor (a + b) = (m.runFor a).runFor b
  | 0, b, m => by rw [Nat.zero_add]; rfl
  | a + 1, b, m => by
    by_cases h : m.outcome.isSome = true
    · rw [runFor_done h, runFor_done h, runFor_done h]
    · rw [Nat.succ_add]
      show (if m.outcome.isSome then m else Sre.M.runFor (a + b) m.step) = Sre.M.runFor b (if m.outcome.isSome then m else Sre.M.runFor a m.step)
      rw [if_neg h, if_neg h, runFor_add a b]
section
variable {M : Model} {A : Around} {E : Value → Shared → Prop} {s : Shared}
theorem wp_reDrive {Q : Sre.M → Shared → Prop} : ∀ (n turns : Nat) (m : Sre.M), n < turns → (m.runFor (4 * (n + 1))).outcome.isSome = true → Q (m.runFor (4 * (n + 1))) s → wpAny M A (reDrive turns m) Q E s
  | _, 0, _, h, _, _ => absurd h (Nat.not_lt_zero _)
  | n, t + 1, m, h, ho, hq => by
    show wpAny M A (if (m.runFor 4).outcome.isSome = true then pure (m.runFor 4) else do rule "sre.turn"; reDrive t (m.runFor 4)) Q E s
    have e : m.runFor (4 * (n + 1)) = (m.runFor 4).runFor (4 * n) := by rw [← runFor_add]; congr 1; omega
    by_cases hd : (m.runFor 4).outcome.isSome = true
    · rw [if_pos hd]
      rw [e, runFor_done hd] at hq
      exact wpAny_pure hq
    · rw [if_neg hd]
      cases n with
      | zero => rw [e] at ho; exact absurd ho hd
      | succ n =>
        rw [e] at ho hq
        exact wpAny_bind (wpAny_rule (wp_reDrive n t (m.runFor 4) (Nat.lt_of_succ_lt_succ h) ho hq))
theorem wp_forUnit {α : Type} {f : α → PUnit → Sem (ForInStep PUnit)} {Q : PUnit → Shared → Prop} (hf : ∀ a (Q' : ForInStep PUnit → Shared → Prop), Q' (.yield ⟨⟩) s → wpAny M A (f a ⟨⟩) Q' E s) : ∀ (l : List α), Q ⟨⟩ s → wpAny M A (forIn l (⟨⟩ : PUnit) f) Q E s
  | [], h => by rw [List.forIn_nil]; exact wpAny_pure h
  | a :: l, h => by
    rw [List.forIn_cons]
    exact wpAny_bind (hf a _ (wp_forUnit hf l h))
/-- the machine's end, as a plain word: none | some matched -/
def ended (m : Sre.M) : Option Bool := match m.outcome with
  | some .matched => some true
  | some .failed => some false
  | _ => none
theorem wp_run {Q : Option Sre.M → Shared → Prop} {m : Sre.M} (n : Nat) {b : Bool} (hn : n < 2 ^ 64) (he : ended (m.runFor (4 * (n + 1))) = some b) (h : Q (if b = true then some (m.runFor (4 * (n + 1))) else none) s) : wpAny M A (reRunToEnd m) Q E s := by
  unfold reRunToEnd
  have ho : (m.runFor (4 * (n + 1))).outcome.isSome = true := by
    unfold ended at he
    cases q : (m.runFor (4 * (n + 1))).outcome with
    | none => rw [q] at he; cases he
    | some o => rfl
  refine wpAny_bind (wp_reDrive n _ m hn ho ?_)
  generalize m.runFor (4 * (n + 1)) = z at he h ho
  refine wpAny_bind (wp_forUnit (fun a Q' hq => ?_) _ ?_)
  · by_cases hs : z.seen.has a = true
    · simp only [hs, if_true]; exact wpAny_bind (wpAny_rule (wpAny_pure hq))
    · simp only [hs]; exact wpAny_bind (wpAny_pure (wpAny_pure hq))
  · unfold ended at he
    cases q : z.outcome with
    | none => rw [q] at he; cases he
    | some o =>
      rw [q] at he
      cases o with
      | matched => cases he; exact wpAny_pure h
      | failed => cases he; exact wpAny_pure h
      | stuck w => cases he
end
/-- a compiled pattern that stands at P -/
structure PatAt (h : Heap) (P : Addr) (code : Array Nat) (groups kind : Nat) : Prop where
  obj : ∃ pat fl C fs, fs = #[pat, fl, rawInt groups, .none, .none, .ref C, rawInt kind] ∧ h.get? P = some ({ cls := .type "re.Pattern", data := .fields fs } : Obj) ∧ ∃ n, h.get? C = some ({ cls := .type "tuple", data := .seq (code.map fun (c : Nat) => rawInt (c : Int)) n } : Obj)
theorem PatAt.keeps {h h' : Heap} {P : Addr} {code : Array Nat} {groups kind : Nat} (x : PatAt h P code groups kind) (k : ∀ b o, h.get? b = some o → h'.get? b = some o) : PatAt h' P code groups kind := by
  obtain ⟨pat, fl, C, fs, e, h1, n, h2⟩ := x.obj
  exact ⟨pat, fl, C, fs, e, k _ _ h1, n, k _ _ h2⟩
theorem raw_items (code : Array Nat) : ((code.map fun (c : Nat) => rawInt (c : Int)).map reRawOf).map (·.toNat) = code := by
  rw [Array.map_map, Array.map_map]
  have : (((fun x : Int => x.toNat) ∘ reRawOf) ∘ fun (c : Nat) => rawInt (c : Int)) = id := by
    funext c; simp [rawInt, reRawOf]
  rw [this, Array.map_id]
section
variable {M : Model} {A : Around} {E : Value → Shared → Prop} {s : Shared}
theorem wp_rawItems {C : Addr} {o : Obj} {xs : Array Value} {n : Nat} {Q : Array Int → Shared → Prop} (h1 : s.heap.get? C = some o) (h2 : o.data = .seq xs n) (h : Q (xs.map reRawOf) s) : wpAny M A (reRawItems (.ref C)) Q E s := by
  unfold reRawItems
  exact wpAny_bind (wpAny_seqItems h1 h2 (wpAny_pure h))
theorem wp_textStr {x : Str} {t : Tok} {Q : Array Nat × Nat → Shared → Prop} (h : Q (x.cps, 0) s) : wpAny M A (reTextOf (.str x t)) Q E s := by
  unfold reTextOf
  exact wpAny_bind (wpAny_pure (wpAny_pure h))
theorem wp_textBytes {b : Array UInt8} {t : Tok} {Q : Array Nat × Nat → Shared → Prop} (h : Q (b.map (·.toNat), 1) s) : wpAny M A (reTextOf (.bytes b t)) Q E s := by
  unfold reTextOf
  refine wpAny_bind ?_
  refine wpAny_bind (wpAny_pure (wpAny_pure ?_))
  dsimp only
  refine wpAny_bind (wpAny_of_eq PySem.W.KBy.quiet_eq ?_)
  exact wpAny_pure h
theorem sub_bytes_self : isSubtype (.type "bytes") (.type "bytes") = pure true := by rw [isSubtype_type]; kernel_rfl
theorem wp_whole_str {P : Addr} {code : Array Nat} {groups : Nat} {x : Str} {t : Tok} {Q : ReTarget → Shared → Prop} (hp : PatAt s.heap P code groups 0) (h : Q ⟨.ref P, .str x t, code, x.cps, 0, groups, 0, x.cps.size⟩ s) : wpAny M A (reWholeTarget (.ref P) (.str x t)) Q E s := by
  obtain ⟨pat, fl, C, fs, rfl, h1, n, h2⟩ := hp.obj
  unfold reWholeTarget
  refine wpAny_bind (wpAny_fieldsOf h1 rfl ?_)
  refine wpAny_bind (wp_textStr ?_)
  dsimp only
  refine wpAny_bind (wpAny_pure ?_)
  refine wpAny_bind (wp_rawItems h2 rfl ?_)
  rw [raw_items]
  exact wpAny_pure h
theorem wp_whole_bytes {P : Addr} {code : Array Nat} {groups : Nat} {b : Array UInt8} {t : Tok} {Q : ReTarget → Shared → Prop} (hp : PatAt s.heap P code groups 1) (h : Q ⟨.ref P, .bytes b t, code, b.map (·.toNat), 1, groups, 0, (b.map (·.toNat)).size⟩ s) : wpAny M A (reWholeTarget (.ref P) (.bytes b t)) Q E s := by
  obtain ⟨pat, fl, C, fs, rfl, h1, n, h2⟩ := hp.obj
  unfold reWholeTarget
  refine wpAny_bind (wpAny_fieldsOf h1 rfl ?_)
  refine wpAny_bind (wp_textBytes ?_)
  dsimp only
  refine (wpAny_bind ?_ : wpAny M A (reNoCollectionInside (.bytes b t) 1 >>= fun _ => _) Q E s)
  unfold reNoCollectionInside
  refine wpAny_bind (wpAny_isInstance (T := "bytes") (b := true) rfl sub_bytes_self (wpAny_pure ?_))
  refine wpAny_bind (wp_rawItems h2 rfl ?_)
  rw [raw_items]
  exact wpAny_pure h
end
end Mine
end

section
open PySem PySem.W PySem.Calls PyProof.Rows PySem.Builtin.Re
namespace Mine
set_option maxRecDepth 100000
theorem named_search (v : Value) : reNamed "re.Pattern.search" "search" ["string", "pos", "endpos"] 1 [v] [] = pure [some v, none, none] := rfl
theorem named_sub (a b : Value) : reNamed "re.Pattern.sub" "sub" ["repl", "string", "count"] 2 [a, b] [] = pure [some a, some b, none] := rfl
/-- the places of the groups of a machine that has matched -/
def spansOf (groups : Nat) (m : Sre.M) : List Int :=
  (List.range groups).flatMap fun g =>
    match if ((2 * g + 1 : Nat) : Int) ≤ m.lastmark then (m.marks.getD (2 * g) none, m.marks.getD (2 * g + 1) none) else (none, none) with
    | (some b, some e) => [(b : Int), (e : Int)]
    | _ => [-1, -1]
def wrongOf (groups : Nat) (m : Sre.M) : Bool :=
  (List.range groups).any (fun g => match m.marks.getD (2 * g) none, m.marks.getD (2 * g + 1) none with | some b, some e => ((2 * g + 1 : Nat) : Int) ≤ m.lastmark && e < b | _, _ => false)
theorem spansOf_size (groups : Nat) (m : Sre.M) : (spansOf groups m).length = 2 * groups := by
  unfold spansOf
  generalize hk : (List.range groups) = l
  have : groups = l.length := by rw [← hk, List.length_range]
  rw [this]
  clear hk this
  induction l with
  | nil => rfl
  | cons g l ih =>
    rw [List.flatMap_cons, List.length_append, ih, List.length_cons]
    have : ∀ x : Option Nat × Option Nat, (match x with | (some b, some e) => [(b : Int), (e : Int)] | _ => [-1, -1]).length = 2 := by
      rintro ⟨_ | b, _ | e⟩ <;> rfl
    rw [this]; omega
theorem spansOf_vals (groups : Nat) (m : Sre.M) : ((List.range groups).flatMap fun g =>
    match if ((2 * g + 1 : Nat) : Int) ≤ m.lastmark then (m.marks.getD (2 * g) none, m.marks.getD (2 * g + 1) none) else (none, none) with
    | (some b, some e) => [rawInt b, rawInt e]
    | _ => [rawInt (-1), rawInt (-1)]) = (spansOf groups m).map rawInt := by
  unfold spansOf
  rw [List.map_flatMap]
  congr 1
  funext g
  have : ∀ x : Option Nat × Option Nat, (match x with | (some b, some e) => [rawInt b, rawInt e] | _ => [rawInt (-1), rawInt (-1)]) = (match x with | (some b, some e) => [(b : Int), (e : Int)] | _ => [-1, -1]).map rawInt := by
    rintro ⟨_ | b, _ | e⟩ <;> rfl
  exact this _
abbrev mObj (x : Str) (t : Tok) (pat p l i : Value) (C : Addr) : Obj := { cls := .type "re.Match", data := .fields #[.str x t, pat, p, l, i, .ref C] }
abbrev sObj (sp : List Int) (n : Nat) : Obj := { cls := .type "tuple", data := .seq (sp.map rawInt).toArray n }
/-- a match object at `a`: the text, the places (whole first) -/
structure MatchAt (h : Heap) (a : Addr) (x : Str) (sp : List Int) : Prop where
  obj : ∃ t pat p l i C, h.get? a = some ({ cls := .type "re.Match", data := .fields #[.str x t, pat, p, l, i, .ref C] } : Obj) ∧ ∃ n, h.get? C = some ({ cls := .type "tuple", data := .seq (sp.map rawInt).toArray n } : Obj)
theorem MatchAt.keeps {h h' : Heap} {a : Addr} {x : Str} {sp : List Int} (q : MatchAt h a x sp) (k : ∀ b o, h.get? b = some o → h'.get? b = some o) : MatchAt h' a x sp := by
  obtain ⟨t, pat, p, l, i, C, h1, n, h2⟩ := q.obj
  exact ⟨t, pat, p, l, i, C, k _ _ h1, n, k _ _ h2⟩
/-- what a search comes to: none: not ended; some none: no match; some (some places) -/
def look (code x : Array Nat) (groups n : Nat) : Option (Option (List Int)) :=
  let m := (Sre.forSearch code x groups 0 x.size false).runFor (4 * (n + 1))
  match ended m with
  | none => none
  | some false => some none
  | some true => if wrongOf groups m then none else some (some ((m.start : Int) :: (m.handed : Int) :: spansOf groups m))
section
variable {M : Model} {A : Around} {E : Value → Shared → Prop} {s : Shared}
theorem wp_newMatch {pat : Value} {x : Str} {t : Tok} {groups pos lim : Nat} {m : Sre.M} {Q : Value → Shared → Prop} (hg : groups < 1000) (hw : wrongOf groups m = false)
    (h : Q (.ref (s.heap.push (sObj ((m.start : Int) :: (m.handed : Int) :: spansOf groups m) 0)).objs.size) { s with heap := (s.heap.push (sObj ((m.start : Int) :: (m.handed : Int) :: spansOf groups m) 0)).push (mObj x t pat (rawInt pos) (rawInt lim) (rawInt m.lastindex) s.heap.objs.size) }) :
    wpAny M A (reNewMatch pat (.str x t) groups pos lim m) Q E s := by
  unfold reNewMatch
  dsimp only
  split
  · next hc => exact absurd (hw.symm.trans hc) (by decide)
  generalize hz : (List.flatMap _ (List.range groups)) = zz
  have hz' : zz = (spansOf groups m).map rawInt := hz.symm.trans (spansOf_vals groups m)
  clear hz
  subst hz'
  refine wpAny_bind (wpAny_newObj_type ?_ ?_)
  · exact wpAny_newObj_type h
  · have := spansOf_size groups m
    show _ ≤ _
    simp only [List.size_toArray, List.length_cons, List.length_map, this]
    exact Nat.le_trans (by omega : 2 * groups + 1 + 1 ≤ 2002) (by decide)
theorem wp_search {P : Addr} {code : Array Nat} {groups : Nat} {x : Str} {t : Tok} {Q : PySem.Fin → Shared → Prop} {r : Option (List Int)} (n : Nat) (hn : n < 2 ^ 64) (hg : groups < 1000) (hp : PatAt s.heap P code groups 0) (hx : x.cps.size < 2 ^ 63 - 1)
    (hl : look code x.cps groups n = some r)
    (h0 : r = none → Q (.done (.ret .none)) s)
    (h1 : ∀ sp p l i, r = some sp → Q (.done (.ret (.ref (s.heap.push (sObj sp 0)).objs.size))) { s with heap := (s.heap.push (sObj sp 0)).push (mObj x t (.ref P) p l i s.heap.objs.size) }) :
    wpAny M A (Builtin.«re.Pattern.search» ⟨[.ref P, .str x t], []⟩) Q E s := by
  obtain ⟨pat, fl, C, fs, rfl, q1, k, q2⟩ := hp.obj
  unfold Builtin.«re.Pattern.search» reTarget
  dsimp only
  rw [named_search]
  refine wpAny_bind ?_
  refine wpAny_bind (wpAny_pure ?_)
  dsimp only
  refine wpAny_bind (wpAny_pure ?_)
  refine wpAny_bind (wpAny_pure ?_)
  refine wpAny_bind (wpAny_fieldsOf q1 rfl ?_)
  refine wpAny_bind (wp_textStr ?_)
  dsimp only
  refine wpAny_bind (wpAny_pure ?_)
  refine wpAny_bind (wp_rawItems q2 rfl ?_)
  rw [raw_items]
  refine wpAny_pure ?_
  unfold reAnswer
  dsimp only
  have e0 : min (0 : Int).toNat x.cps.size = 0 := Nat.zero_min _
  have e1 : min ((2 : Int) ^ 63 - 1).toNat x.cps.size = x.cps.size := Nat.min_eq_right (Nat.le_of_lt (by
    have : ((2 : Int) ^ 63 - 1).toNat = 2 ^ 63 - 1 := by decide
    rw [this]; exact hx))
  rw [e0, e1]
  unfold look at hl
  dsimp only at hl
  have hgr : reRawNat ((#[pat, fl, rawInt groups, .none, .none, .ref C, rawInt (0 : Nat)] : Array Value).getD 2 .none) = groups := Int.toNat_natCast groups
  rw [hgr]
  generalize hm : Sre.forSearch code x.cps groups 0 x.cps.size false = m at hl ⊢
  cases he : ended (m.runFor (4 * (n + 1))) with
  | none => rw [he] at hl; cases hl
  | some b =>
    rw [he] at hl
    refine wpAny_bind (wp_run n hn he ?_)
    cases b with
    | false =>
      cases hl
      exact wpAny_pure (h0 rfl)
    | true =>
      dsimp only at hl
      by_cases hw : wrongOf groups (m.runFor (4 * (n + 1))) = true
      · rw [if_pos hw] at hl; cases hl
      · rw [if_neg hw] at hl
        have hr := Option.some.inj hl
        refine wpAny_bind (wp_newMatch hg (Bool.eq_false_iff.mpr hw) ?_)
        exact wpAny_pure (h1 _ _ _ _ hr.symm)
theorem wp_sliceStr {x : Array Nat} {b e : Nat} {Q : Value → Shared → Prop} (hx : (x.extract b e).size ≤ sizeLine) (h : Q (.str ⟨x.extract b e⟩ s.toks) { s with toks := s.toks + 1 }) : wpAny M A (reSlice x 0 b e) Q E s := by
  unfold reSlice
  exact wpAny_mkStr h hx
/-- the text of a group, none where it took no part -/
def partOf (x : Str) (sp : List Int) (k : Nat) : Option Str :=
  if sp.getD (2 * k) (-1) < 0 ∨ sp.getD (2 * k + 1) (-1) < 0 then none else some ⟨x.cps.extract (sp.getD (2 * k) (-1)).toNat (sp.getD (2 * k + 1) (-1)).toNat⟩
theorem raw_map (sp : List Int) : ((sp.map rawInt).toArray.map reRawOf) = sp.toArray := by
  simp [rawInt, reRawOf, Function.comp_def]
theorem wp_group {a : Addr} {k : Nat} {x : Str} {sp : List Int} {t : Tok} {Q : PySem.Fin → Shared → Prop} (hm : MatchAt s.heap a x sp) (hk : 2 * k < sp.length) (hx : x.length ≤ 1000)
    (h0 : partOf x sp k = none → Q (.done (.ret .none)) s)
    (h1 : ∀ y t' tk, partOf x sp k = some y → Q (.done (.ret (.str y t'))) { s with toks := tk }) :
    wpAny M A (Builtin.«re.Match.group» ⟨[.ref a, .int (k : Int) t], []⟩) Q E s := by
  obtain ⟨t0, pat, p, l, i, C, q1, n, q2⟩ := hm.obj
  unfold Builtin.«re.Match.group» reFound reGroupNumber
  refine wpAny_bind (wpAny_pure ?_)
  dsimp only
  refine wpAny_bind ?_
  refine wpAny_bind (wpAny_fieldsOf q1 rfl ?_)
  refine wpAny_bind (wp_rawItems q2 rfl ?_)
  refine wpAny_pure ?_
  dsimp only
  rw [raw_map]
  refine wpAny_bind ?_
  refine wpAny_bind ?_
  refine wpAny_bind (wpAny_pure ?_)
  refine wpAny_pure ?_
  rw [if_pos (by rfl)]
  refine wpAny_bind ?_
  refine (wpAny_bind ?_ : wpAny M A (asInt? (Value.int (k : Int) t) >>= _) _ E s)
  refine wpAny_pure ?_
  refine wpAny_pure ?_
  have hb : (decide ((k : Int) < 0) || decide (2 * (k : Int) ≥ sp.toArray.size)) = false := by
    rw [List.size_toArray, decide_eq_false (by omega), decide_eq_false (by omega)]; rfl
  try dsimp only
  rw [hb]
  refine wpAny_pure ?_
  refine wpAny_bind ?_
  unfold reGroupText
  dsimp only
  have e2 : ((k : Int)).toNat = k := Int.toNat_natCast k
  rw [e2]
  have g0 : sp.toArray.getD (2 * k) (-1) = sp.getD (2 * k) (-1) := by simp
  have g1 : sp.toArray.getD (2 * k + 1) (-1) = sp.getD (2 * k + 1) (-1) := by simp
  rw [g0, g1]
  unfold partOf at h0 h1
  by_cases hc : sp.getD (2 * k) (-1) < 0 ∨ sp.getD (2 * k + 1) (-1) < 0
  · have hd : (decide (sp.getD (2 * k) (-1) < 0) || decide (sp.getD (2 * k + 1) (-1) < 0)) = true := by
      rcases hc with hc | hc
      · rw [decide_eq_true hc]; rfl
      · rw [decide_eq_true hc, Bool.or_true]
    rw [hd]
    exact wpAny_pure (wpAny_pure (h0 (if_pos hc)))
  · have hd : (decide (sp.getD (2 * k) (-1) < 0) || decide (sp.getD (2 * k + 1) (-1) < 0)) = false := by
      rw [not_or] at hc
      rw [decide_eq_false hc.1, decide_eq_false hc.2]; rfl
    rw [hd]
    refine (wpAny_bind (wp_textStr ?_) : wpAny M A (_ >>= _) _ E s)
    dsimp only
    refine wp_sliceStr ?_ (wpAny_pure (h1 _ _ _ (if_neg hc)))
    rw [Array.size_extract]
    have : x.cps.size ≤ 1000 := hx
    exact Nat.le_trans (by omega : _ ≤ 1000) (by decide)
end
end Mine
end

section
open PySem PySem.W PySem.Calls PyProof.Rows PySem.Builtin.Re
namespace Mine
set_option maxRecDepth 100000
theorem rm_bool : typeLookup (.type "re.Match") "__bool__" = pure none := by rw [typeLookup_type, builtinLookup_eq_fast]; kernel_rfl
theorem rm_len : typeLookup (.type "re.Match") "__len__" = pure none := by rw [typeLookup_type, builtinLookup_eq_fast]; kernel_rfl
def codeZ : Array Nat := #[14, 4, 0, 1, 6, 6, 0, 23, 14, 0, 1, 17, 0, 13, 6, 16, 45, 16, 43, 0, 17, 1, 18, 17, 2, 13, 4, 8, 0, 0, 24, 9, 0, 1, 13, 4, 8, 0, 0, 1, 17, 3, 24, 6, 0, 1, 16, 58, 1, 23, 17, 0, 1, 17, 4, 13, 4, 8, 0, 0, 13, 4, 8, 0, 0, 17, 5, 18, 6, 5, 1]
def utcB (tz : Str) : Bool := (decide (tz = { cps := #[71, 77, 84] }) || (decide (tz = { cps := #[85, 84, 67] }) || (decide (tz = { cps := #[85, 84] }) || (decide (tz = { cps := #[90] }) || false))))
/-- the number of a text of figures, at most 99 -/
def numOf (y : Str) : Option Int := match PySem.intText? y with | some n => if 0 ≤ n ∧ n ≤ 99 ∧ 0 < y.length then some n else none | none => none
/-- what the zone's text tells -/
def offOf (tz : Str) : Option (Option Int) :=
  if utcB tz = true then some (some 0) else
  match look codeZ tz.cps 3 60 with
  | none => none
  | some none => some none
  | some (some sp) =>
    if sp.length ≠ 8 then none else
    match (partOf tz sp 2).bind numOf with
    | none => none
    | some a => match partOf tz sp 3 with
      | none => some (some (if partOf tz sp 1 = some ⟨#[45]⟩ then -(3600 * a) else 3600 * a))
      | some y => match numOf y with
        | none => none
        | some b => some (some (if partOf tz sp 1 = some ⟨#[45]⟩ then -(3600 * a + 60 * b) else 3600 * a + 60 * b))
theorem numOf_is {y : Str} {n : Int} (h : numOf y = some n) : PySem.intText? y = some n ∧ 0 ≤ n ∧ n ≤ 99 ∧ 0 < y.length := by
  unfold numOf at h
  cases e : PySem.intText? y with
  | none => rw [e] at h; cases h
  | some m =>
    rw [e] at h
    dsimp only at h
    by_cases hc : 0 ≤ m ∧ m ≤ 99 ∧ 0 < y.length
    · rw [if_pos hc] at h; cases h; exact ⟨rfl, hc⟩
    · rw [if_neg hc] at h; cases h
section
variable {prog : Program} {w : World} {A : Around} {E : Value → Shared → Prop} {s : Shared}
theorem MatchAt.obj1 {h : Heap} {a : Addr} {x : Str} {sp : List Int} (q : MatchAt h a x sp) : ∃ o, h.get? a = some o ∧ o.cls = .type "re.Match" ∧ o.dict = none := by
  obtain ⟨t, pat, p, l, i, C, h1, n, h2⟩ := q.obj
  exact ⟨_, h1, rfl, rfl⟩
theorem MatchAt.typeIs {s : Shared} {a : Addr} {x : Str} {sp : List Int} (q : MatchAt s.heap a x sp) : s.TypeIs (.ref a) "re.Match" := by
  obtain ⟨o, h1, h2, _⟩ := q.obj1
  exact ⟨o, h1, h2⟩
theorem PatAt.obj1 {h : Heap} {P : Addr} {code : Array Nat} {groups kind : Nat} (q : PatAt h P code groups kind) : ∃ o, h.get? P = some o ∧ o.cls = .type "re.Pattern" ∧ o.dict = none := by
  obtain ⟨pat, fl, C, fs, e, h1, n, h2⟩ := q.obj
  exact ⟨_, h1, rfl, rfl⟩
theorem PatAt.typeIs {s : Shared} {P : Addr} {code : Array Nat} {groups kind : Nat} (q : PatAt s.heap P code groups kind) : s.TypeIs (.ref P) "re.Pattern" := by
  obtain ⟨o, h1, h2, _⟩ := q.obj1
  exact ⟨o, h1, h2⟩
theorem wp_search_method {P : Addr} {code : Array Nat} {groups kind : Nat} {pl : Sem Bool} {Q : Value × List Value → Shared → Prop} (q : PatAt s.heap P code groups kind) (h : Q (.builtin "re.Pattern.search", [.ref P]) s) : wpAny (model prog w) A (getMethod (.ref P) "search" pl) Q E s :=
  getMethod_builtin q.typeIs re_plain re_search_slot re_search_type (fun a e => by cases e; obtain ⟨o, h1, _, h2⟩ := q.obj1; exact ⟨o, h1, h2⟩) h
theorem wp_sub_method {P : Addr} {code : Array Nat} {groups kind : Nat} {pl : Sem Bool} {Q : Value × List Value → Shared → Prop} (q : PatAt s.heap P code groups kind) (h : Q (.builtin "re.Pattern.sub", [.ref P]) s) : wpAny (model prog w) A (getMethod (.ref P) "sub" pl) Q E s :=
  getMethod_builtin q.typeIs re_plain re_sub_slot re_sub_type (fun a e => by cases e; obtain ⟨o, h1, _, h2⟩ := q.obj1; exact ⟨o, h1, h2⟩) h
theorem wp_group_method {a : Addr} {x : Str} {sp : List Int} {pl : Sem Bool} {Q : Value × List Value → Shared → Prop} (q : MatchAt s.heap a x sp) (h : Q (.builtin "re.Match.group", [.ref a]) s) : wpAny (model prog w) A (getMethod (.ref a) "group" pl) Q E s :=
  getMethod_builtin q.typeIs rm_plain rm_group_slot rm_group_type (fun a e => by cases e; obtain ⟨o, h1, _, h2⟩ := q.obj1; exact ⟨o, h1, h2⟩) h
theorem wp_match_true {a : Addr} {x : Str} {sp : List Int} {Q : Bool → Shared → Prop} (q : MatchAt s.heap a x sp) (h : Q true s) : wpAny (model prog w) A (truthy (.ref a)) Q E s := by
  unfold truthy
  first
    | refine wpAny_bind (wpAny_callSpecial?_none (name := Str.ofString "__bool__") q.typeIs rm_bool ?_)
    | refine wpAny_bind (wpAny_pure (wpAny_bind (wpAny_callSpecial?_none (name := Str.ofString "__bool__") q.typeIs rm_bool ?_)))
  first
    | refine wpAny_bind (wpAny_specialOf (name := Str.ofString "__len__") q.typeIs rm_len ?_)
    | refine wpAny_bind (wpAny_pure (wpAny_bind (wpAny_specialOf (name := Str.ofString "__len__") q.typeIs rm_len ?_)))
  exact wpAny_pure h
theorem call_search {P : Addr} {code : Array Nat} {groups : Nat} {x : Str} {t : Tok} {Q : Value → Shared → Prop} {r : Option (List Int)} (n : Nat) (hn : n < 2 ^ 64) (hg : groups < 1000) (hp : PatAt s.heap P code groups 0) (hx : x.cps.size < 2 ^ 63 - 1)
    (hl : look code x.cps groups n = some r)
    (h0 : r = none → Q .none s)
    (h1 : ∀ sp p l i, r = some sp → Q (.ref (s.heap.push (sObj sp 0)).objs.size) { s with heap := (s.heap.push (sObj sp 0)).push (mObj x t (.ref P) p l i s.heap.objs.size) }) :
    wpAny (model prog w) A (call (.builtin "re.Pattern.search") [.ref P, .str x t]) Q E s :=
  wpAny_call_entry re_search_slot hp.typeIs re_search_entry (wp_search n hn hg hp hx hl (fun e => ⟨_, rfl, h0 e⟩) fun sp p l i e => ⟨_, rfl, h1 sp p l i e⟩) (re_search_args _ _)
theorem call_group {a : Addr} {k : Nat} {x : Str} {sp : List Int} {t : Tok} {Q : Value → Shared → Prop} (hm : MatchAt s.heap a x sp) (hk : 2 * k < sp.length) (hx : x.length ≤ 1000)
    (h0 : partOf x sp k = none → Q .none s)
    (h1 : ∀ y t' tk, partOf x sp k = some y → Q (.str y t') { s with toks := tk }) :
    wpAny (model prog w) A (call (.builtin "re.Match.group") [.ref a, .int (k : Int) t]) Q E s :=
  wpAny_call_entry rm_group_slot hm.typeIs rm_group_entry (wp_group hm hk hx (fun e => ⟨_, rfl, h0 e⟩) fun y t' tk e => ⟨_, rfl, h1 y t' tk e⟩) (rm_group_args _ _)
end
section
variable {prog : Program} {w : World} {A : Around} {E : Value → Shared → Prop} {s : Shared} {h₀ : Heap} {L : Addr} {m : Str → Option Value} {news : List (Addr × Obj)}
theorem matchNews {h : Heap} {a C : Addr} {x : Str} {t : Tok} {pat p l i : Value} {sp : List Int} {n : Nat} (N : News h₀ L h ((a, mObj x t pat p l i C) :: (C, sObj sp n) :: news)) : MatchAt h a x sp :=
  ⟨t, pat, p, l, i, C, (N _ (List.Mem.head _)).1, n, (N _ (List.Mem.tail _ (List.Mem.head _))).1⟩
theorem search_K {P : Addr} {code : Array Nat} {groups : Nat} {x : Str} {t : Tok} {Q : Value → Shared → Prop} {r : Option (List Int)} (F : Fr h₀ L s.heap m) (N : News h₀ L s.heap news) (n : Nat) (hn : n < 2 ^ 64) (hg : groups < 1000) (hp : PatAt s.heap P code groups 0) (hx : x.length ≤ 1000)
    (hl : look code x.cps groups n = some r)
    (h0 : r = none → Q .none s)
    (h1 : ∀ sp h' a C p l i, r = some sp → Fr h₀ L h' m → News h₀ L h' ((a, mObj x t (.ref P) p l i C) :: (C, sObj sp 0) :: news) → Q (.ref a) { s with heap := h' }) :
    wpAny (model prog w) A (call (.builtin "re.Pattern.search") [.ref P, .str x t]) Q E s :=
  call_search n hn hg hp (Nat.lt_of_le_of_lt (show x.cps.size ≤ 1000 from hx) (by decide)) hl h0 fun sp p l i e =>
    h1 sp _ _ _ p l i e ((F.push _).push _) ((N.push F _).push (F.push _) _)
theorem group_none {a C : Addr} {k : Nat} {x : Str} {sp : List Int} {t u : Tok} {pat p l i : Value} {n : Nat} {Q : Value → Shared → Prop} (N : News h₀ L s.heap ((a, mObj x u pat p l i C) :: (C, sObj sp n) :: news)) (hp : partOf x sp k = none) (hs : sp.length = 8) (hk : k < 4) (hx : x.length ≤ 16)
    (h : Q .none s) : wpAny (model prog w) A (call (.builtin "re.Match.group") [.ref a, .int (k : Int) t]) Q E s :=
  call_group (matchNews N) (by omega) (by omega) (fun _ => h) fun y t' tk e => by rw [hp] at e; cases e
theorem group_some {a C : Addr} {k : Nat} {x y : Str} {sp : List Int} {t u : Tok} {pat p l i : Value} {n : Nat} {Q : Value → Shared → Prop} (N : News h₀ L s.heap ((a, mObj x u pat p l i C) :: (C, sObj sp n) :: news)) (hp : partOf x sp k = some y) (hs : sp.length = 8) (hk : k < 4) (hx : x.length ≤ 16)
    (h : ∀ t' tk, Q (.str y t') { s with toks := tk }) : wpAny (model prog w) A (call (.builtin "re.Match.group") [.ref a, .int (k : Int) t]) Q E s :=
  call_group (matchNews N) (by omega) (by omega) (fun e => by rw [hp] at e; cases e) fun y' t' tk e => by rw [hp] at e; cases e; exact h t' tk
end
end Mine
end

section
open PySem PySem.W PySem.Calls PyProof.Rows PySem.Builtin
namespace Mine
set_option maxRecDepth 100000
theorem bj_slot : Slot "bytes" "join" "bytes.join" :=
  .of (owner := "bytes") (n := "join") (by rw [typeLookup_type, builtinLookup_eq_fast]; kernel_rfl) (by decide +kernel) (by decide +kernel) (by decide +kernel)
    (by first | exact .inl (by decide +kernel) | exact .inr (by decide +kernel)) (by rw [isSubtype_type]; kernel_rfl)
theorem bj_entry : entryFor table "bytes.join" = some Builtin.«bytes.join» := entryFor_of_tree (by kernel_rfl)
theorem bj_args (a b : Value) : argsOk "bytes.join" ⟨[a, b], []⟩ := by unfold argsOk; kernel_rfl
theorem take_eq {id : String} {b : Array UInt8} {t : Tok} : Bytes.takeBufferQuiet? id (.bytes b t) 0 = pure (some (b, none)) := by
  unfold Bytes.takeBufferQuiet? Bytes.takeBuffer?
  rw [KBy.special_eq KBy.look_buffer, KBy.own_buffer]
  have e : ((0 : Int) == Bytes.fullReadOnly) = false := by decide
  rw [e, KBy.buffer_eq]
  kernel_rfl
inductive BytesAre : List Value → List (Array UInt8) → Prop
  | nil : BytesAre [] []
  | cons {b : Array UInt8} {t : Tok} {vs : List Value} {bs : List (Array UInt8)} : BytesAre vs bs → BytesAre (.bytes b t :: vs) (b :: bs)
theorem BytesAre.length {vs : List Value} {bs : List (Array UInt8)} (h : BytesAre vs bs) : vs.length = bs.length := by
  induction h with
  | nil => rfl
  | cons _ ih => simp [ih]
theorem BytesAre.get {vs : List Value} {bs : List (Array UInt8)} (h : BytesAre vs bs) : ∀ i, i < vs.length → ∃ b t, vs[i]? = some (.bytes b t) ∧ bs[i]? = some b := by
  induction h with
  | nil => intro i hi; exact absurd hi (Nat.not_lt_zero _)
  | cons _ ih =>
    intro i hi
    cases i with
    | zero => exact ⟨_, _, rfl, rfl⟩
    | succ i => exact ih i (Nat.lt_of_succ_lt_succ hi)
theorem BytesAre.append {vs ws : List Value} {bs cs : List (Array UInt8)} (h : BytesAre vs bs) (k : BytesAre ws cs) : BytesAre (vs ++ ws) (bs ++ cs) := by
  induction h with
  | nil => exact k
  | cons _ ih => exact .cons ih
section
variable {prog : Program} {w : World} {A : Around} {E : Value → Shared → Prop} {s : Shared}
theorem foldl_sizes (n : Nat) (pa : Array (Array UInt8)) : Array.foldl (fun x1 x2 => x1 + x2.size) n pa = n + (pa.toList.map (·.size)).sum := by
  rw [← Array.foldl_toList]
  generalize pa.toList = l
  induction l generalizing n with
  | nil => rfl
  | cons a l ih => rw [List.foldl_cons, ih, List.map_cons, List.sum_cons]; omega
theorem wp_joinLetGo {M : Model} {keep : List Value} {Q : Unit → Shared → Prop} (hq : Q () s) : ∀ {ta : List (Value × Option Value)} (vs : List Value), ta = vs.map (fun v => (v, none)) → wpAny M A (Bytes.joinLetGo ta keep) Q E s
  | _, [], rfl => wpAny_pure hq
  | _, v :: vs, rfl => by
    rw [List.map_cons]
    unfold Bytes.joinLetGo
    exact wpAny_bind (wpAny_letGo (wp_joinLetGo hq vs rfl))
theorem joined_size (x : Array UInt8) (bs : List (Array UInt8)) : (Bytes.joined x bs).size ≤ (bs.map (·.size)).sum + bs.length * x.size := by
  unfold Bytes.joined
  have : ∀ (bs : List (Array UInt8)) (k : Nat) (out : Array UInt8), ((bs.zipIdx k).foldl (fun out (p, i) => (if i > 0 then out ++ x else out) ++ p) out).size ≤ out.size + ((bs.map (·.size)).sum + bs.length * x.size) := by
    intro bs
    induction bs with
    | nil => intro k out; simp
    | cons b bs ih =>
      intro k out
      rw [List.zipIdx_cons, List.foldl_cons]
      refine Nat.le_trans (ih _ _) ?_
      rw [List.map_cons, List.sum_cons, List.length_cons, Nat.succ_mul]
      dsimp only
      split
      · rw [Array.size_append, Array.size_append]; omega
      · rw [Array.size_append]; omega
  have h := this bs 0 #[]
  simpa using h
theorem bytes_join_body {D : Addr} {items : Array Value} {bs : List (Array UInt8)} {x : Array UInt8} {t : Tok} {Q : Value → Shared → Prop} (hl : s.heap.IsList D items) (hi : BytesAre items.toList bs) (hz0 : (bs.map (·.size)).sum + bs.length * x.size ≤ 16777216)
    (h : ∀ t' k, Q (.bytes (Bytes.joined x bs) t') { s with toks := k }) :
    wpAny (model prog w) A (Builtin.«bytes.join» ⟨[.bytes x t, .ref D], []⟩) (fun fin s' => ∃ v, fin = .done (.ret v) ∧ Q v s') E s := by
  obtain ⟨o, ho, hc, n, hd⟩ := id hl
  unfold Builtin.«bytes.join» Bytes.joinM
  dsimp only
  refine wpAny_bind ?_
  refine (wpAny_bind ?_ : wpAny _ _ (noKeywords _ _ >>= _) _ _ _)
  refine wpAny_pure ?_
  refine wpAny_pure ?_
  rw [if_pos (by rfl)]
  refine wpAny_bind ?_
  unfold Bytes.joinItems
  refine wpAny_bind (wpAny_typeOf (T := "list") ⟨o, ho, hc⟩ ?_)
  rw [if_pos (by rfl)]
  refine wpAny_pure ?_
  refine wpAny_bind (wpAny_seqItems ho hd ?_)
  dsimp only
  rw [if_pos (by rfl)]
  rcases items with ⟨_ | ⟨v, _ | ⟨v2, l⟩⟩⟩
  rotate_left
  · cases hi with
    | cons hi =>
    cases hi
    refine wpAny_bind (wpAny_typeOf (T := "bytes") (typeIs_bytes _ _ _) ?_)
    rw [if_pos (by rfl)]
    refine wpAny_bind (wpAny_rule ?_)
    refine wpAny_bind (wpAny_pure ?_)
    refine wpAny_pure ⟨_, rfl, ?_⟩
    rename_i b t9
    have h2 := h t9 s.toks
    have e : Bytes.joined x [b] = b := by
      show (#[] : Array UInt8) ++ b = b
      simp
    rw [e] at h2
    exact h2
  all_goals (
    rw [KPc.range_list]
    refine wpAny_bind ?_
    first
      | generalize hz : (⟨v :: v2 :: l⟩ : Array Value) = items at *
      | generalize hz : (⟨[]⟩ : Array Value) = items at *
    clear hz
    refine (wpAny_forIn_list _ (fun rest (st : Array (Array UInt8) × List (Value × Option Value)) s' => s' = s ∧ ∃ i, rest = List.range' i (items.size - i) ∧ i ≤ items.size ∧ st.1.toList = bs.take i ∧ st.2 = (items.toList.take i).map (fun v => (v, none))) _ ?_ ?_ _ _ ?_)
    · rintro j rest ⟨pa, ta⟩ s' ⟨rfl, i, hr, hle, h1, h2⟩
      dsimp only at h1 h2
      subst h2
      have hlt : i < items.size := by
        rcases Nat.lt_or_ge i items.size with q | q
        · exact q
        · rw [Nat.sub_eq_zero_of_le q] at hr; cases hr
      have hr2 : items.size - i = (items.size - (i + 1)) + 1 := by omega
      rw [hr2, List.range'_succ] at hr
      obtain ⟨rfl, rfl⟩ := List.cons.inj hr
      obtain ⟨b, tb, g1, g2⟩ := hi.get j (by rw [Array.length_toList]; exact hlt)
      dsimp only
      refine wpAny_bind (wpAny_seqItems ho hd ?_)
      dsimp only
      have g3 : items.getD j .none = .bytes b tb := by
        have : items[j]? = some (.bytes b tb) := by simpa using g1
        rw [Array.getD_eq_getD_getElem?, this]; rfl
      rw [g3]
      have g4 : (List.map (fun v => ((v, none) : Value × Option Value)) (items.toList.take j)).any (fun x => x.1.onHeap) = false := by
        rw [List.any_eq_false]
        intro y hy
        obtain ⟨z, hz1, rfl⟩ := List.mem_map.mp hy
        obtain ⟨q, hq⟩ := List.getElem?_of_mem (List.mem_of_mem_take hz1)
        have hql : q < items.toList.length := by
          rcases Nat.lt_or_ge q items.toList.length with k | k
          · exact k
          · rw [List.getElem?_eq_none k] at hq; cases hq
        obtain ⟨b2, t2, k1, _⟩ := hi.get q hql
        rw [hq] at k1
        cases k1
        exact Bool.false_ne_true
      rw [g4]
      refine wpAny_bind (wpAny_holding (wpAny_of_eq take_eq ?_))
      dsimp only
      refine wpAny_bind (wpAny_seqItems ho hd ?_)
      dsimp only
      have g5 : (items.size != items.size) = false := by simp
      rw [g5]
      refine wpAny_pure ⟨rfl, j + 1, rfl, hlt, ?_, ?_⟩
      · dsimp only
        rw [Array.toList_push, h1, List.take_add_one, g2]; rfl
      · dsimp only
        rw [List.take_add_one, g1, List.map_append]; rfl
    · rintro ⟨pa, ta⟩ s' ⟨rfl, i, hr, hle, h1, h2⟩
      dsimp only at h1 h2 ⊢
      have hi0 : i = items.size := by
        rcases Nat.lt_or_ge i items.size with q | q
        · rw [show items.size - i = (items.size - (i + 1)) + 1 by omega, List.range'_succ] at hr; cases hr
        · omega
      subst hi0
      have hfull : pa.toList = bs := by
        rw [h1, List.take_of_length_le]
        rw [← hi.length, Array.length_toList]; exact Nat.le_refl _
      refine wpAny_bind (wpAny_bind (wpAny_pure (wpAny_pure ?_)))
      have g6 : Bytes.tooLong (Array.foldl (fun x1 x2 => x1 + x2.size) (x.size * (pa.size - 1)) pa) = false := by
        rw [foldl_sizes, hfull]
        refine KBy.tooLong_not (Nat.le_trans ?_ hz0)
        have : pa.size = bs.length := by rw [← hfull, Array.length_toList]
        rw [this, Nat.add_comm]
        exact Nat.add_le_add_left (Nat.le_trans (Nat.mul_le_mul_left _ (Nat.sub_le _ _)) (Nat.le_of_eq (Nat.mul_comm _ _))) _
      rw [g6]
      refine wpAny_bind (wpAny_mkBytes ?_ ?_)
      · refine wpAny_bind (wpAny_holding (wpAny_point ?_))
        refine wpAny_bind (wp_joinLetGo ?_ _ h2)
        rw [hfull]
        exact wpAny_pure ⟨_, rfl, h _ _⟩
      · rw [hfull, sizeLine_eq]
        exact Nat.le_trans (joined_size x bs) hz0
    · exact ⟨rfl, 0, rfl, Nat.zero_le _, rfl, rfl⟩)
theorem bytes_join {D : Addr} {items : Array Value} {bs : List (Array UInt8)} {x : Array UInt8} {t : Tok} {Q : Value → Shared → Prop} (hl : s.heap.IsList D items) (hi : BytesAre items.toList bs) (hz0 : (bs.map (·.size)).sum + bs.length * x.size ≤ 16777216)
    (h : ∀ t' k, Q (.bytes (Bytes.joined x bs) t') { s with toks := k }) : wpAny (model prog w) A (call (.builtin "bytes.join") [.bytes x t, .ref D]) Q E s :=
  wpAny_call_entry bj_slot (typeIs_bytes _ _ _) bj_entry (bytes_join_body hl hi hz0 h) (bj_args _ _)
theorem joined_nil (bs : List (Array UInt8)) : Bytes.joined #[] bs = ((bs.map (·.toList)).flatten).toArray := by
  unfold Bytes.joined
  have : ∀ (bs : List (Array UInt8)) (k : Nat) (out : Array UInt8), ((bs.zipIdx k).foldl (fun out (p, i) => (if i > 0 then out ++ (#[] : Array UInt8) else out) ++ p) out) = out ++ ((bs.map (·.toList)).flatten).toArray := by
    intro bs
    induction bs with
    | nil => intro k out; simp
    | cons b bs ih =>
      intro k out
      rw [List.zipIdx_cons, List.foldl_cons, ih]
      dsimp only
      have e : (if k > 0 then out ++ (#[] : Array UInt8) else out) = out := by split <;> simp
      rw [e, List.map_cons, List.flatten_cons]
      apply Array.ext'
      simp
  have h := this bs 0 #[]
  simpa using h
end
end Mine
end

section
open PySem PySem.W PySem.Calls PyProof.Rows PySem.Builtin PySem.Builtin.Re
namespace Mine
set_option maxRecDepth 100000
def TxtV (kind : Nat) (v : Value) (c : List Nat) : Prop := (kind = 0 ∧ ∃ x t, v = .str x t ∧ x.cps.toList = c) ∨ (kind = 1 ∧ ∃ b t, v = .bytes b t ∧ b.toList.map (·.toNat) = c)
def nextAt (code x : Array Nat) (n start : Nat) (must : Bool) : Option (Option (Nat × Nat)) :=
  let m := (Sre.forSearch code x 0 start x.size must).runFor (4 * (n + 1))
  match ended m with
  | none => none
  | some false => some none
  | some true => some (some (m.start, m.handed))
/-- the pieces that a substitution lays -/
def subText (code x : Array Nat) (rp : List Nat) (n : Nat) : Nat → Nat → Bool → Option (List (List Nat))
  | 0, _, _ => none
  | k + 1, d, must =>
    match nextAt code x n d must with
    | none => none
    | some none => some (if d < x.size then [(x.extract d x.size).toList] else [])
    | some (some (a, b)) =>
      match subText code x rp n k b (b == a) with
      | none => none
      | some l => some ((if d < a then [(x.extract d a).toList] else []) ++ rp :: l)
theorem plain_loop : plainId "re.Pattern.sub.loop" = true := by decide +kernel
theorem plain_sub : plainId "re.Pattern.sub" = true := by decide +kernel
theorem look_str_call : typeLookup (.type "str") "__call__" = pure none := by rw [typeLookup_type, builtinLookup_eq_fast]; kernel_rfl
theorem look_bytes_call : typeLookup (.type "bytes") "__call__" = pure none := by rw [typeLookup_type, builtinLookup_eq_fast]; kernel_rfl
section
variable {M : Model} {A : Around} {E : Value → Shared → Prop} {s : Shared}
theorem wp_whole {P : Addr} {code : Array Nat} {kind : Nat} {v : Value} {x : Array Nat} {Q : ReTarget → Shared → Prop} (hp : PatAt s.heap P code 0 kind) (hv : TxtV kind v x.toList) (h : Q ⟨.ref P, v, code, x, kind, 0, 0, x.size⟩ s) : wpAny M A (reWholeTarget (.ref P) v) Q E s := by
  rcases hv with ⟨rfl, y, t, rfl, e⟩ | ⟨rfl, b, t, rfl, e⟩
  · have e' : y.cps = x := Array.ext' e
    subst e'
    exact wp_whole_str hp h
  · have e' : b.map (·.toNat) = x := Array.ext' (by rw [Array.toList_map]; exact e)
    subst e'
    exact wp_whole_bytes hp h
theorem wp_next {P v : Value} {code x : Array Nat} {kind pos d : Nat} {must : Bool} {n : Nat} {r : Option (Nat × Nat)} {Q : Option Sre.M → Shared → Prop} (hn : n < 2 ^ 64) (hr : nextAt code x n d must = some r)
    (h0 : r = none → Q none s) (h1 : ∀ m : Sre.M, r = some (m.start, m.handed) → Q (some m) s) : wpAny M A (reNextFound ⟨P, v, code, x, kind, 0, pos, x.size⟩ d must) Q E s := by
  unfold reNextFound
  unfold nextAt at hr
  dsimp only at hr ⊢
  cases he : ended ((Sre.forSearch code x 0 d x.size must).runFor (4 * (n + 1))) with
  | none => rw [he] at hr; cases hr
  | some b =>
    rw [he] at hr
    refine wp_run n hn he ?_
    cases b with
    | false => cases hr; exact h0 rfl
    | true => cases hr; exact h1 _ rfl
theorem wp_slice {kind : Nat} {v : Value} {x : Array Nat} {a b : Nat} {Q : Value → Shared → Prop} (hv : TxtV kind v x.toList) (hx : x.size ≤ 1000) (h : ∀ u tk, TxtV kind u (x.extract a b).toList → Q u { s with toks := tk }) : wpAny M A (reSlice x kind a b) Q E s := by
  have hs : (x.extract a b).size ≤ 1000 := by rw [Array.size_extract]; omega
  unfold reSlice
  rcases hv with ⟨rfl, y, t, rfl, e⟩ | ⟨rfl, c, t, rfl, e⟩
  · refine wpAny_mkStr (h _ _ (.inl ⟨rfl, _, _, rfl, rfl⟩)) ?_
    exact Nat.le_trans (show (x.extract a b).size ≤ 1000 from hs) (by decide)
  · refine wpAny_mkBytes (h _ _ (.inr ⟨rfl, _, _, rfl, ?_⟩)) ?_
    · have hall : ∀ k ∈ (x.extract a b).toList, k < 256 := by
        intro k hk
        have : k ∈ x.toList := by
          rw [Array.toList_extract] at hk
          exact List.mem_of_mem_drop (List.mem_of_mem_take hk)
        rw [← e] at this
        obtain ⟨z, _, rfl⟩ := List.mem_map.mp this
        exact z.toNat_lt
      rw [Array.toList_map, List.map_map]
      conv => rhs; rw [← List.map_id ((x.extract a b).toList)]
      refine List.map_congr_left fun k hk => ?_
      show (k.toUInt8).toNat = k
      rw [Nat.toUInt8, UInt8.toNat_ofNat']
      exact Nat.mod_eq_of_lt (hall k hk)
    · rw [Array.size_map]
      exact Nat.le_trans hs (by decide)
end
section
variable {prog : Program} {w : World} {A : Around} {s : Shared}
inductive TxtsV (kind : Nat) : List Value → List (List Nat) → Prop
  | nil : TxtsV kind [] []
  | cons {v : Value} {c : List Nat} {vs : List Value} {cs : List (List Nat)} : TxtV kind v c → TxtsV kind vs cs → TxtsV kind (v :: vs) (c :: cs)
theorem TxtsV.append {kind : Nat} {vs ws : List Value} {bs cs : List (List Nat)} (h : TxtsV kind vs bs) (k : TxtsV kind ws cs) : TxtsV kind (vs ++ ws) (bs ++ cs) := by
  induction h with
  | nil => exact k
  | cons q _ ih => exact .cons q ih
theorem TxtsV.length {kind : Nat} {vs : List Value} {cs : List (List Nat)} (h : TxtsV kind vs cs) : vs.length = cs.length := by
  induction h with
  | nil => rfl
  | cons _ _ ih => simp [ih]
theorem mapSeq_push (items : Array Value) (n : Nat) (v : Value) : ∃ k, Obj.mapSeq (·.push v) (W.listOf items n) = W.listOf (items.push v) k := ⟨_, rfl⟩
theorem wp_push {E : Value → Shared → Prop} {M : Model} {base : Heap} {D : Addr} {items : Array Value} {n : Nat} {v : Value} {Q : Unit → Shared → Prop} (hD : base.get? D = none) (he : Ext base s.heap) (ho : s.heap.get? D = some (W.listOf items n)) (hz : items.size ≤ 1000)
    (h : ∀ h' k, Ext base h' → h'.get? D = some (W.listOf (items.push v) k) → Q () { s with heap := h' }) : wpAny M A (updateSeq D (·.push v)) Q E s := by
  obtain ⟨k, hk⟩ := mapSeq_push items n v
  refine wpAny_updateSeq ho rfl (h _ k (fun b o e => ?_) ?_) (Nat.le_trans hz (by decide)) (by show (items.push v).size ≤ _; rw [Array.size_push]; exact Nat.le_trans (Nat.succ_le_succ hz) (by decide))
  · have : D ≠ b := fun q => by subst q; rw [hD] at e; cases e
    rw [Heap.get?_update_other _ _ this]
    exact he b o e
  · rw [Heap.get?_update_self _ ho (by rw [hk]; rfl), hk]
theorem join_texts : ∀ {vs : List Value} {cs : List (List Nat)}, TxtsV 0 vs cs → ∃ ys : List Str, StrsAre vs ys ∧ (Str.join ⟨#[]⟩ ys).cps.toList = cs.flatten ∧ (ys.map (·.length)).sum = (cs.map (·.length)).sum ∧ ys.length = cs.length
  | _, _, .nil => ⟨[], .nil, rfl, rfl, rfl⟩
  | _, _, .cons (v := v) (c := c) hv h => by
    obtain ⟨ys, h1, h2, h3, h4⟩ := join_texts h
    rcases hv with ⟨_, x, t, rfl, e⟩ | ⟨h0, _⟩
    · refine ⟨x :: ys, .cons _ _ h1, ?_, ?_, ?_⟩
      · rw [join_nil_cons, List.flatten_cons, ← h2, ← e]
        show (x.cps ++ (Str.join ⟨#[]⟩ ys).cps).toList = _
        rw [Array.toList_append]
      · rw [List.map_cons, List.map_cons, List.sum_cons, List.sum_cons, h3, ← e]; rfl
      · rw [List.length_cons, List.length_cons, h4]
    · cases h0
theorem bytes_texts : ∀ {vs : List Value} {cs : List (List Nat)}, TxtsV 1 vs cs → ∃ bs : List (Array UInt8), BytesAre vs bs ∧ (Bytes.joined #[] bs).toList.map (·.toNat) = cs.flatten ∧ (bs.map (·.size)).sum = (cs.map (·.length)).sum
  | _, _, .nil => ⟨[], .nil, rfl, rfl⟩
  | _, _, .cons (v := v) (c := c) hv h => by
    obtain ⟨ys, h1, h2, h3⟩ := bytes_texts h
    rcases hv with ⟨h0, _⟩ | ⟨_, b, t, rfl, e⟩
    · cases h0
    · refine ⟨b :: ys, .cons h1, ?_, ?_⟩
      · rw [joined_nil] at h2 ⊢
        rw [List.map_cons, List.flatten_cons, List.map_append, List.flatten_cons, e]
        exact congrArg (c ++ ·) h2
      · rw [List.map_cons, List.map_cons, List.sum_cons, List.sum_cons, h3, ← e, List.length_map]; rfl
theorem txt_join (sep : Str) (ys : List Str) : Txt.join sep ys = Str.join sep ys := eq_of_beq (join_closes rfl)
theorem subText_bound {code x : Array Nat} {rp : List Nat} {n : Nat} : ∀ (k d : Nat) (must : Bool) (l : List (List Nat)), subText code x rp n k d must = some l → l.length ≤ 2 * k ∧ (l.map (·.length)).sum ≤ k * (x.size + rp.length)
  | 0, d, must, l, h => by cases h
  | k + 1, d, must, l, h => by
    unfold subText at h
    have hx : ∀ a b, (x.extract a b).toList.length ≤ x.size := fun a b => by rw [Array.length_toList, Array.size_extract]; omega
    cases e : nextAt code x n d must with
    | none => rw [e] at h; cases h
    | some r =>
      rw [e] at h
      cases r with
      | none =>
        cases h
        split
        · refine ⟨by simp; omega, ?_⟩
          have := hx d x.size
          rw [Nat.succ_mul k (x.size + rp.length)]
          simp only [List.map_cons, List.map_nil, List.sum_cons, List.sum_nil]
          omega
        · exact ⟨Nat.zero_le _, Nat.zero_le _⟩
      | some r =>
        obtain ⟨a, b⟩ := r
        dsimp only at h
        cases e2 : subText code x rp n k b (b == a) with
        | none => rw [e2] at h; cases h
        | some l2 =>
          rw [e2] at h
          cases h
          obtain ⟨i1, i2⟩ := subText_bound k b (b == a) l2 e2
          have := hx d a
          rw [Nat.succ_mul k (x.size + rp.length)]
          generalize k * (x.size + rp.length) = z at i2 ⊢
          have e0 : rp.length = rp.length := rfl
          split
          · refine ⟨?_, ?_⟩
            · simp only [List.length_append, List.length_cons, List.length_nil]; omega
            · simp only [List.map_append, List.map_cons, List.map_nil, List.sum_append, List.sum_cons, List.sum_nil]; omega
          · refine ⟨?_, ?_⟩
            · simp only [List.nil_append, List.length_cons]; omega
            · simp only [List.nil_append, List.map_cons, List.sum_cons]; omega
theorem wp_joinEnd {E : Value → Shared → Prop} {D : Addr} {x : Array Nat} {kind e : Nat} {tv : Value} {cnt : Int} {items : Array Value} {cs : List (List Nat)} {Q : PySem.Fin → Shared → Prop} (hk : kind = 0 ∨ kind = 1) (hv : TxtV kind tv x.toList) (hx : x.size ≤ 100)
    (ho : s.heap.get? D = some (W.listOf items e)) (ht : TxtsV kind items.toList cs) (hz : items.size ≤ 1000) (hsum : (cs.map (·.length)).sum ≤ 100000) (h : ∀ v tk, TxtV kind v cs.flatten → Q (.done (.ret v)) { s with toks := tk }) :
    wpAny (model prog w) A (do
      let joiner ← reSlice x kind 0 0
      let z ← seqItems? (Value.ref D)
      if (z.getD #[]).isEmpty = true then do
        let text ← pure joiner
        if false = true then do
          let y ← holding [text] do
            let i ← mkInt cnt
            newTuple [text, i]
          ret y
        else ret text
      else do
        let text ← call (Value.builtin (if (kind == 0) = true then "str.join" else "bytes.join")) [joiner, Value.ref D]
        if false = true then do
          let y ← holding [text] do
            let i ← mkInt cnt
            newTuple [text, i]
          ret y
        else ret text) Q E s := by
  refine wpAny_bind (wp_slice hv (Nat.le_trans hx (by decide)) fun u tk hu => ?_)
  have hu0 : TxtV kind u [] := by simpa using hu
  refine wpAny_bind (wpAny_seqItems ho rfl ?_)
  have hl := ht.length
  rw [Option.getD_some]
  by_cases hi : items.isEmpty = true
  · rw [if_pos hi]
    refine wpAny_bind (wpAny_pure ?_)
    rw [if_neg (by decide)]
    have h0 : items = #[] := by simpa using hi
    subst h0
    cases ht
    exact wpAny_pure (h u tk hu0)
  · rw [if_neg hi]
    refine wpAny_bind ?_
    rcases hk with rfl | rfl
    · rcases hu0 with ⟨_, y, t, rfl, e1⟩ | ⟨h0, _⟩
      · have e2 : y = ⟨#[]⟩ := by
          obtain ⟨c⟩ := y
          congr 1
          exact Array.ext' e1
        subst e2
        obtain ⟨ys, k1, k2, k3, k4⟩ := join_texts ht
        refine join_listW (show Heap.IsList _ _ _ from ⟨_, ho, rfl, _, rfl⟩) k1 (by decide) ?_ fun t' k => ?_
        · rw [k3, k4, ← hl, Array.length_toList]; omega
        · rw [if_neg (by decide)]
          refine wpAny_pure (h _ k (.inl ⟨rfl, _, _, rfl, ?_⟩))
          rw [txt_join, k2]
      · cases h0
    · rcases hu0 with ⟨h0, _⟩ | ⟨_, b, t, rfl, e1⟩
      · cases h0
      · have e2 : b = #[] := Array.ext' (List.map_eq_nil_iff.mp e1)
        subst e2
        obtain ⟨bs, k1, k2, k3⟩ := bytes_texts ht
        refine bytes_join (show Heap.IsList _ _ _ from ⟨_, ho, rfl, _, rfl⟩) k1 ?_ fun t' k => ?_
        · rw [k3]
          show _ + _ * 0 ≤ _
          omega
        · rw [if_neg (by decide)]
          exact wpAny_pure (h _ k (.inr ⟨rfl, _, _, rfl, k2⟩))
theorem wp_lit {E : Value → Shared → Prop} {kind : Nat} {rv : Value} {rp : List Nat} {Q : Unit → Shared → Prop} (hr : TxtV kind rv rp) (hq : Q () s) : wpAny (model prog w) A (reLiteralCannotBeTurned rv) Q E s := by
  unfold reLiteralCannotBeTurned
  rcases hr with ⟨_, y, t, rfl, _⟩ | ⟨_, b, t, rfl, _⟩
  · refine wpAny_bind (wpAny_pure ?_)
    exact wpAny_pure hq
  · refine (wpAny_bind ?_ : wpAny _ _ (asStr? (.bytes b t) >>= _) _ _ _)
    refine (wpAny_bind (wpAny_pure (wpAny_pure ?_)))
    refine wpAny_bind (wpAny_isInstance (T := "bytes") (b := true) rfl sub_bytes_self ?_)
    exact wpAny_pure hq
theorem sub_loop {R : Result → Shared → Prop} {P D : Addr} {code x : Array Nat} {kind n : Nat} {tv rv : Value} {rp : List Nat} {base : Heap} (hn : n < 2 ^ 64) (hp : PatAt base P code 0 kind) (hk : kind = 0 ∨ kind = 1) (hv : TxtV kind tv x.toList) (hr : TxtV kind rv rp) (hx : x.size ≤ 100) (hD : base.get? D = none) :
    ∀ (k d : Nat) (must : Bool) (l : List (List Nat)) (cnt : Int) (s : Shared) (items : Array Value) (e : Nat) (cs : List (List Nat)), subText code x rp n k d must = some l → Ext base s.heap → s.heap.get? D = some (W.listOf items e) → TxtsV kind items.toList cs → items.size + 2 * k ≤ 500 →
      ((cs ++ l).map (·.length)).sum ≤ 100000 →
      (∀ v h' tk, Ext base h' → TxtV kind v (cs ++ l).flatten → R (.ok (.ret v)) { s with heap := h', toks := tk }) →
      codeAny (model prog w) A (.builtin "re.Pattern.sub.loop" ⟨[.ref P, tv, rv, rawInt 0, rawInt 0, rawInt cnt, rawInt (d : Int), rawInt (d : Int), .bool must, .ref D, .bool false], []⟩) R s := by
  intro k
  induction k with
  | zero => intro d must l cnt s items e cs h; cases h
  | succ k ih =>
    intro d must l cnt s items e cs h he ho ht hz hsum hR
    refine codeAny_builtin re_loop_entry ?_
    rw [Around.under_plainId plain_loop _]
    unfold Builtin.«re.Pattern.sub.loop»
    dsimp only [rawInt]
    refine wpAny_bind (wp_whole (hp.keeps he) hv ?_)
    rw [if_pos (by rfl)]
    refine wpAny_bind (wp_lit hr ?_)
    dsimp only
    refine wpAny_bind ?_
    rw [if_neg (by simp), Int.toNat_natCast]
    unfold subText at h
    have hx2 : x.size ≤ 1000 := Nat.le_trans hx (by decide)
    cases e1 : nextAt code x n d must with
    | none => rw [e1] at h; cases h
    | some r =>
      rw [e1] at h
      refine wp_next hn e1 (fun q => ?_) (fun m q => ?_)
      · subst q
        cases h
        dsimp only
        by_cases hlt : d < x.size
        · rw [if_pos hlt] at hsum hR ⊢
          refine wpAny_bind (wp_slice hv hx2 fun u tk hu => ?_)
          refine wpAny_bind (wp_push (s := ⟨s.heap, s.gens, s.drawn, tk, s.os⟩) hD he ho (by omega) fun h' k1 he' ho' => ?_)
          refine wp_joinEnd (s := ⟨h', s.gens, s.drawn, tk, s.os⟩) hk hv hx ho' (by rw [Array.toList_push]; exact ht.append (.cons hu .nil)) (by rw [Array.size_push]; omega) hsum fun v tk2 hvv => ?_
          exact hR v h' tk2 he' hvv
        · rw [if_neg hlt] at hsum hR ⊢
          rw [List.append_nil] at hsum hR
          refine wp_joinEnd hk hv hx ho ht (by omega) hsum fun v tk2 hvv => ?_
          exact hR v s.heap tk2 he hvv
      · subst q
        dsimp only at h
        cases e2 : subText code x rp n k m.handed (m.handed == m.start) with
        | none => rw [e2] at h; cases h
        | some l2 =>
          rw [e2] at h
          cases h
          have hnn : (rv != Value.none) = true := by
            rcases hr with ⟨_, y, t, rfl, _⟩ | ⟨_, b, t, rfl, _⟩ <;> rfl
          dsimp only
          by_cases hlt : d < m.start
          · rw [if_pos hlt] at hsum hR ⊢
            refine wpAny_bind (wp_slice hv hx2 fun u tk hu => ?_)
            refine wpAny_bind (wp_push (s := ⟨s.heap, s.gens, s.drawn, tk, s.os⟩) hD he ho (by omega) fun h' k1 he' ho' => ?_)
            rw [if_pos (by rfl)]
            refine wpAny_bind (wpAny_pure ?_)
            rw [if_pos hnn]
            refine wpAny_bind (wp_push (s := ⟨h', s.gens, s.drawn, tk, s.os⟩) hD he' ho' (by rw [Array.size_push]; omega) fun h2 k2 he2 ho2 => ?_)
            refine wpAny_pure ⟨plainId_quiet plain_loop _, ?_⟩
            refine ih m.handed (m.handed == m.start) l2 (cnt + 1) ⟨h2, s.gens, s.drawn, tk, s.os⟩ _ _ (cs ++ [(x.extract d m.start).toList] ++ [rp]) e2 he2 ho2 ?_ ?_ ?_ ?_
            · rw [Array.toList_push, Array.toList_push]; exact (ht.append (.cons hu .nil)).append (.cons hr .nil)
            · rw [Array.size_push, Array.size_push]; omega
            · simpa [List.append_assoc] using hsum
            · intro v h3 tk3 he3 hv3
              refine hR v h3 tk3 he3 ?_
              simpa [List.append_assoc] using hv3
          · rw [if_neg hlt] at hsum hR ⊢
            rw [if_pos (by rfl)]
            refine wpAny_bind (wpAny_pure ?_)
            rw [if_pos hnn]
            refine wpAny_bind (wp_push hD he ho (by omega) fun h2 k2 he2 ho2 => ?_)
            refine wpAny_pure ⟨plainId_quiet plain_loop _, ?_⟩
            refine ih m.handed (m.handed == m.start) l2 (cnt + 1) ⟨h2, s.gens, s.drawn, s.toks, s.os⟩ _ _ (cs ++ [rp]) e2 he2 ho2 ?_ ?_ ?_ ?_
            · rw [Array.toList_push]; exact ht.append (.cons hr .nil)
            · rw [Array.size_push]; omega
            · simpa [List.append_assoc] using hsum
            · intro v h3 tk3 he3 hv3
              refine hR v h3 tk3 he3 ?_
              simpa [List.append_assoc] using hv3
theorem Ext.push {h : Heap} (o : Obj) : Ext h (h.push o) := fun _ _ e => Heap.get?_push_of_some _ e
theorem code_sub {R : Result → Shared → Prop} {P : Addr} {code x : Array Nat} {kind n k : Nat} {tv rv : Value} {rp : List Nat} {l : List (List Nat)} (hn : n < 2 ^ 64) (hp : PatAt s.heap P code 0 kind) (hk : kind = 0 ∨ kind = 1) (hv : TxtV kind tv x.toList) (hr : TxtV kind rv rp) (hrp : rp.contains 92 = false) (hx : x.size ≤ 100) (hkk : k ≤ 200) (hrl : rp.length ≤ 10)
    (hl : subText code x rp n k 0 false = some l) (h : ∀ v h' tk, Ext s.heap h' → TxtV kind v l.flatten → R (.ok (.ret v)) { s with heap := h', toks := tk }) :
    codeAny (model prog w) A (.call (.builtin "re.Pattern.sub") ⟨[.ref P, rv, tv], []⟩) R s := by
  obtain ⟨hb1, hb2⟩ := subText_bound k 0 false l hl
  refine codeAny_call_builtin re_sub_slot.plain re_sub_entry (re_sub_slot.check _ _ _ _ _ _ _ _ hp.typeIs (re_sub_args _ _ _) ?_)
  unfold Builtin.«re.Pattern.sub» reSubstitute
  dsimp only
  rw [named_sub]
  refine wpAny_bind ?_
  refine wpAny_pure ?_
  dsimp only
  refine wpAny_bind (wpAny_pure ?_)
  have hsp : ∀ {Q : Option Value → Shared → Prop} {E : Value → Shared → Prop}, Q none s → wpAny (model prog w) A.in1 (specialOf rv (Str.ofString "__call__")) Q E s := by
    intro Q E hq
    rcases hr with ⟨_, y, t, rfl, _⟩ | ⟨_, b, t, rfl, _⟩
    · exact wpAny_specialOf (typeIs_str _ _ _) look_str_call hq
    · exact wpAny_specialOf (typeIs_bytes _ _ _) look_bytes_call hq
  refine wpAny_bind (hsp ?_)
  refine wpAny_bind ?_
  have hnone : s.heap.get? s.heap.objs.size = none := by
    cases e : s.heap.get? s.heap.objs.size with
    | none => rfl
    | some o => exact absurd (Heap.lt_size e) (Nat.lt_irrefl _)
  have tail : ∀ {R : Result → Shared → Prop}, (∀ v h' tk, Ext s.heap h' → TxtV kind v l.flatten → R (.ok (.ret v)) { s with heap := h', toks := tk }) →
      wpAny (model prog w) A.in1 (do
        let __x ← pure (rv, (0 : Int))
        let _ ← holding [__x.fst] (reWholeTarget (Value.ref P) tv)
        if (__x.snd == 1) = true then do
          reNotHeld "re.Pattern.sub" tv
          let z ← newList []
          again (Code.builtin "re.Pattern.sub.loop" { pos := [Value.ref P, tv, __x.fst, rawInt __x.snd, rawInt 0, rawInt 0, rawInt 0, rawInt 0, Value.bool false, z, Value.bool false] })
        else do
          let z ← newList []
          again (Code.builtin "re.Pattern.sub.loop" { pos := [Value.ref P, tv, __x.fst, rawInt __x.snd, rawInt 0, rawInt 0, rawInt 0, rawInt 0, Value.bool false, z, Value.bool false] }))
        (fun fin s' => match fin with | .done f => R (.ok f) s' | .again c' => c'.quiet = true ∧ codeAny (model prog w) A c' R s') (fun e s' => R (.error e) s') s := by
    intro R hR
    refine wpAny_bind (wpAny_pure ?_)
    refine wpAny_bind (wpAny_holding (wp_whole hp hv ?_))
    rw [if_neg (by show ¬ ((0 : Int) == 1) = true; decide)]
    refine wpAny_bind (wpAny_newObj_type ?_)
    refine wpAny_pure ⟨plainId_quiet plain_loop _, ?_⟩
    refine sub_loop hn hp hk hv hr hx hnone k 0 false l 0 ⟨s.heap.push _, s.gens, s.drawn, s.toks, s.os⟩ #[] 0 [] hl (Ext.push _) (Heap.get?_push_size _ rfl) .nil ?_ ?_ ?_
    · show 0 + 2 * k ≤ 500
      omega
    · rw [List.nil_append]
      have : k * (x.size + rp.length) ≤ 200 * 110 := Nat.mul_le_mul hkk (by omega)
      omega
    · intro v h' tk he hvv
      exact hR v h' tk he hvv
  rcases hr with ⟨rfl, y, t, rfl, e⟩ | ⟨rfl, b, t, rfl, e⟩
  · refine wpAny_pure ?_
    refine wpAny_bind (wpAny_pure ?_)
    rw [if_neg (by decide)]
    have e9 : y.cps.contains 92 = false := by rw [← e] at hrp; rw [← Array.contains_toList]; exact hrp
    rw [e9]
    rw [if_pos (by rfl)]
    refine tail ?_
    exact h
  · refine (wpAny_bind ?_ : wpAny _ _ (pure () >>= _) _ _ _)
    refine wpAny_pure ?_
    refine wpAny_pure ?_
    dsimp only
    refine wpAny_bind (wpAny_of_eq KBy.quiet_eq ?_)
    refine wpAny_bind (wpAny_pure ?_)
    rw [if_neg (by decide)]
    have e9 : b.contains 92 = false := by
      rw [← Array.contains_toList]
      cases hc : b.toList.contains 92 with
      | false => rfl
      | true =>
        have h1 : (92 : UInt8) ∈ b.toList := by simpa using hc
        have h2 : 92 ∈ rp := by rw [← e]; exact List.mem_map.mpr ⟨92, h1, rfl⟩
        have h3 : rp.contains 92 = true := by simpa using h2
        rw [hrp] at h3; cases h3
    rw [e9]
    rw [if_pos (by rfl)]
    refine tail ?_
    exact h
theorem call_sub {E : Value → Shared → Prop} {P : Addr} {code x : Array Nat} {kind n k : Nat} {tv rv : Value} {rp : List Nat} {l : List (List Nat)} {Q : Value → Shared → Prop} (hn : n < 2 ^ 64) (hp : PatAt s.heap P code 0 kind) (hk : kind = 0 ∨ kind = 1) (hv : TxtV kind tv x.toList) (hr : TxtV kind rv rp) (hrp : rp.contains 92 = false) (hx : x.size ≤ 100) (hkk : k ≤ 200) (hrl : rp.length ≤ 10)
    (hl : subText code x rp n k 0 false = some l) (h : ∀ v h' tk, Ext s.heap h' → TxtV kind v l.flatten → Q v { s with heap := h', toks := tk }) :
    wpAny (model prog w) A (call (.builtin "re.Pattern.sub") [.ref P, rv, tv]) Q E s :=
  wpAny_call (code_sub hn hp hk hv hr hrp hx hkk hrl hl h)
end
end Mine
end

section
open PySem
namespace Mine
set_option maxRecDepth 100000
def codeE : Array Nat := #[14, 9, 4, 1, 2, 16, 10, 16, 13, 0, 7, 7, 16, 13, 16, 10, 15, 18, 5, 16, 10, 15, 13, 11, 16, 13, 5, 5, 0, 16, 10, 1, 15, 2, 0, 1]
def Runs (k : Nat) (m : Sre.M) (r : Option (Nat × Nat)) : Prop := match r with
  | none => ended (m.runFor k) = some false
  | some (a, b) => ended (m.runFor k) = some true ∧ (m.runFor k).start = a ∧ (m.runFor k).handed = b
theorem Runs.step {k : Nat} {m m' : Sre.M} {r : Option (Nat × Nat)} (e : m.step = m') (ho : m.outcome.isSome = false) (h : Runs k m' r) : Runs (k + 1) m r := by
  have : m.runFor (k + 1) = m'.runFor k := by
    show (if m.outcome.isSome = true then m else Sre.M.runFor k m.step) = _
    rw [if_neg (by rw [ho]; decide), e]
  cases r with
  | none => show ended _ = _; rw [this]; exact h
  | some r => obtain ⟨a, b⟩ := r; show ended _ = _ ∧ _; rw [this]; exact h
theorem Runs.more {k : Nat} {m : Sre.M} {r : Option (Nat × Nat)} (h : Runs k m r) (j : Nat) : Runs (k + j) m r := by
  have hs : (m.runFor k).outcome.isSome = true := by
    have : ∃ b, ended (m.runFor k) = some b := by
      cases r with
      | none => exact ⟨_, h⟩
      | some r => obtain ⟨a, b⟩ := r; exact ⟨_, h.1⟩
    obtain ⟨b, hb⟩ := this
    unfold ended at hb
    cases q : (m.runFor k).outcome with
    | none => rw [q] at hb; cases hb
    | some o => rfl
  have : m.runFor (k + j) = m.runFor k := by rw [runFor_add, runFor_done hs]
  cases r with
  | none => show ended _ = _; rw [this]; exact h
  | some r => obtain ⟨a, b⟩ := r; show ended _ = _ ∧ _; rw [this]; exact h
theorem nextAt_runs {code x : Array Nat} {n d : Nat} {must : Bool} {r : Option (Nat × Nat)} (h : Runs (4 * (n + 1)) (Sre.forSearch code x 0 d x.size must) r) : nextAt code x n d must = some r := by
  unfold nextAt
  dsimp only
  cases r with
  | none => have h' : ended _ = _ := h; rw [h']
  | some r =>
    obtain ⟨a, b⟩ := r
    obtain ⟨h1, h2, h3⟩ := h
    rw [h1]; dsimp only; rw [h2, h3]
/-- a state of the machine of the line ends -/
def st (x : Array Nat) (s pc pos hd : Nat) (om : Bool) (fr : List Sre.Frame) (wt : Nat) (an : Option Bool) (sn : Sre.Seen) : Sre.M :=
  { code := codeE, text := x, lim := x.size, start := s, lastStart := x.size, pc := pc, pos := pos, handed := hd, outermost := om, marks := #[], frames := fr, weight := wt, answer := an, seen := sn }
section
variable {x : Array Nat} {s pc pos hd : Nat} {om : Bool} {fr : List Sre.Frame} {wt : Nat} {sn : Sre.Seen} {k : Nat} {r : Option (Nat × Nat)}
theorem step_exec (h3 : pc < 36) : (st x s pc pos hd om fr wt none sn).step = (st x s pc pos hd om fr wt none sn).exec := if_pos h3
theorem acc_lit {c d : Nat} (h1 : codeE.getD pc 0 = 16) (h2 : codeE.getD (pc + 1) 0 = c) : Sre.accepts codeE pc d sn = .ok (d == c, sn) := by
  unfold Sre.accepts
  rw [h1, h2]; rfl
theorem lit_exec {c : Nat} (h1 : codeE.getD pc 0 = 16) (h2 : codeE.getD (pc + 1) 0 = c) (hp : pos < x.size) :
    (st x s pc pos hd om fr wt none sn).exec = (match (x.getD pos 0 == c) with | true => st x s (pc + 2) (pos + 1) hd om fr wt none (sn.add 16) | false => st x s pc pos hd om fr wt (some false) (sn.add 16)) := by
  have hw : (st x s pc pos hd om fr wt none sn).word 0 = 16 := h1
  unfold Sre.M.exec
  rw [hw]
  refine (if_neg (Nat.not_le.mpr hp)).trans ?_
  have ha := acc_lit (sn := sn.add 16) (d := x.getD pos 0) h1 h2
  show (match Sre.accepts codeE pc (x.getD pos 0) (sn.add 16) with | .error why => _ | .ok (false, seen) => _ | .ok (true, seen) => _) = _
  rw [ha]
  cases x.getD pos 0 == c with
  | true =>
    have hi : Sre.itemWidth codeE pc = 2 := by unfold Sre.itemWidth; rw [h1]; rfl
    show { st x s (pc + Sre.itemWidth codeE pc) (pos + 1) hd om fr wt none (sn.add 16) with text := x } = _
    rw [hi]; rfl
  | false => rfl
theorem lit_ok (c : Nat) (h1 : codeE.getD pc 0 = 16) (h2 : codeE.getD (pc + 1) 0 = c) (h3 : pc < 36) (hp : pos < x.size) (hc : x.getD pos 0 = c)
    (h : ∀ sn, Runs k (st x s (pc + 2) (pos + 1) hd om fr wt none sn) r) : Runs (k + 1) (st x s pc pos hd om fr wt none sn) r := by
  refine Runs.step ((step_exec h3).trans (lit_exec h1 h2 hp)) rfl ?_
  rw [show (x.getD pos 0 == c) = true from beq_iff_eq.mpr hc]
  exact h _
theorem lit_no (c : Nat) (h1 : codeE.getD pc 0 = 16) (h2 : codeE.getD (pc + 1) 0 = c) (h3 : pc < 36) (hc : pos < x.size → x.getD pos 0 ≠ c)
    (h : ∀ sn, Runs k (st x s pc pos hd om fr wt (some false) sn) r) : Runs (k + 1) (st x s pc pos hd om fr wt none sn) r := by
  by_cases hp : pos < x.size
  · refine Runs.step ((step_exec h3).trans (lit_exec h1 h2 hp)) rfl ?_
    rw [show (x.getD pos 0 == c) = false from beq_eq_false_iff_ne.mpr (hc hp)]
    exact h _
  · refine Runs.step ((step_exec h3).trans ?_) rfl (h (sn.add 16))
    have hw : (st x s pc pos hd om fr wt none sn).word 0 = 16 := h1
    unfold Sre.M.exec
    rw [hw]
    exact if_pos (Nat.not_lt.mp hp)
/-- the frame of a branch whose alternative at `alt` is tried -/
def bf (alt pos : Nat) (om : Bool) : Sre.Frame := { wait := .nextBranch, pc := alt, pos := pos, outermost := om }
theorem branch (h : ∀ sn, Runs k (st x s 12 pos pos om (bf 11 pos om :: fr) (wt + 1) none sn) r) (hw : wt < 100) : Runs (k + 1) (st x s 10 pos hd om fr wt none sn) r := by
  refine Runs.step ((step_exec (by decide)).trans ?_) rfl (h (sn.add 7))
  show Sre.M.attempt _ _ _ _ _ = _
  exact if_neg (by show ¬ (wt + 1 + 0 > 16777216); omega)
theorem attempt_ok {m : Sre.M} {f : Sre.Frame} {t q : Nat} {o : Bool} (h : m.weight + 1 + f.kept.marks.size ≤ 16777216) : m.attempt f t q o = { m with frames := f :: m.frames, weight := m.weight + 1 + f.kept.marks.size, pc := t, pos := q, handed := q, outermost := o } := if_neg (by omega)
theorem next1' {q : Nat} (h : ∀ sn, Runs k (st x s 19 pos pos om (bf 18 pos om :: fr) (wt + 1) none sn) r) (hw : wt < 100) : Runs (k + 1) (st x s pc q hd om (bf 11 pos om :: fr) (wt + 1) (some false) sn) r := by
  refine Runs.step (m' := Sre.M.attempt (st x s 11 pos hd om fr (wt + 1 - (1 + 0)) none sn) (bf 18 pos om) 19 pos om) rfl rfl ?_
  rw [attempt_ok (by show wt + 1 - (1 + 0) + 1 + 0 ≤ _; omega), show wt + 1 - (1 + 0) = wt by omega]
  exact h sn
theorem next2 {q : Nat} (h : ∀ sn, Runs k (st x s 24 pos pos om (bf 23 pos om :: fr) (wt + 1) none sn) r) (hw : wt < 100) : Runs (k + 1) (st x s pc q hd om (bf 18 pos om :: fr) (wt + 1) (some false) sn) r := by
  refine Runs.step (m' := Sre.M.attempt (st x s 18 pos hd om fr (wt + 1 - (1 + 0)) none sn) (bf 23 pos om) 24 pos om) rfl rfl ?_
  rw [attempt_ok (by show wt + 1 - (1 + 0) + 1 + 0 ≤ _; omega), show wt + 1 - (1 + 0) = wt by omega]
  exact h sn
theorem jump16 (h : ∀ sn, Runs k (st x s 35 pos hd om fr wt none sn) r) : Runs (k + 1) (st x s 16 pos hd om fr wt none sn) r := Runs.step rfl rfl (h (sn.add 15))
theorem jump21 (h : ∀ sn, Runs k (st x s 35 pos hd om fr wt none sn) r) : Runs (k + 1) (st x s 21 pos hd om fr wt none sn) r := Runs.step rfl rfl (h (sn.add 15))
theorem jump32 (h : ∀ sn, Runs k (st x s 35 pos hd om fr wt none sn) r) : Runs (k + 1) (st x s 32 pos hd om fr wt none sn) r := Runs.step rfl rfl (h (sn.add 15))
theorem succ35 (h : ∀ sn, Runs k (st x s 35 pos pos true fr wt (some true) sn) r) : Runs (k + 1) (st x s 35 pos hd true fr wt none sn) r := Runs.step rfl rfl (h (sn.add 1))
theorem assertNot (h : ∀ sn, Runs k (st x s 29 pos pos false ({ wait := .lookNot, pc := 26, pos := pos, outermost := om } :: fr) (wt + 1) none sn) r) (hw : wt < 100) : Runs (k + 1) (st x s 26 pos hd om fr wt none sn) r := by
  refine Runs.step ((step_exec (by decide)).trans ?_) rfl (h (sn.add 5))
  have e : (st x s 26 pos hd om fr wt none sn).exec = (if pos < 0 then st x s 32 pos hd om fr wt none (sn.add 5) else Sre.M.attempt (st x s 26 pos hd om fr wt none (sn.add 5)) { wait := .lookNot, pc := 26, pos := pos, outermost := om } 29 (pos - 0) false) := rfl
  rw [e, if_neg (by omega), attempt_ok (by show wt + 1 + 0 ≤ _; omega)]
  rfl
theorem lookNo {q : Nat} (h : ∀ sn, Runs k (st x s 32 pos hd om fr wt none sn) r) : Runs (k + 1) (st x s pc q hd false ({ wait := .lookNot, pc := 26, pos := pos, outermost := om } :: fr) (wt + 1) (some false) sn) r := by
  refine Runs.step (m' := st x s 32 pos hd om fr (wt + 1 - (1 + 0)) none sn) rfl rfl ?_
  rw [show wt + 1 - (1 + 0) = wt by omega]
  exact h sn
theorem yesB {q p2 al : Nat} {om2 : Bool} (h : ∀ sn, Runs k (st x s al p2 hd om2 fr wt (some true) sn) r) : Runs (k + 1) (st x s pc q hd om (bf al p2 om2 :: fr) (wt + 1) (some true) sn) r := by
  refine Runs.step (m' := st x s al p2 hd om2 fr (wt + 1 - (1 + 0)) (some true) sn) rfl rfl ?_
  rw [show wt + 1 - (1 + 0) = wt by omega]
  exact h sn
def sf (s : Nat) : Sre.Frame := { wait := .nextStart, pc := 10, pos := s, outermost := true }
theorem yesS {q p2 : Nat} : Runs 2 (st x s pc q hd om [sf p2] 1 (some true) sn) (some (s, hd)) := ⟨rfl, rfl, rfl⟩
end
section
variable {x : Array Nat} {d : Nat}
theorem run_lf {sn : Sre.Seen} {hd : Nat} (hs : d < x.size) (h1 : x.getD d 0 = 10) : Runs 9 (st x d 10 d hd true [sf d] 1 none sn) (some (d, d + 1)) := by
  refine branch (fun sn => ?_) (by decide)
  refine lit_no 13 rfl rfl (by decide) (fun _ => by rw [h1]; decide) fun sn => ?_
  refine next1' (fun sn => ?_) (by decide)
  refine lit_ok 10 rfl rfl (by decide) hs h1 fun sn => ?_
  refine jump21 fun sn => ?_
  refine succ35 fun sn => ?_
  refine yesB fun sn => ?_
  exact yesS
theorem run_crlf {sn : Sre.Seen} {hd : Nat} (hs : d + 1 < x.size) (h1 : x.getD d 0 = 13) (h2 : x.getD (d + 1) 0 = 10) : Runs 8 (st x d 10 d hd true [sf d] 1 none sn) (some (d, d + 2)) := by
  refine branch (fun sn => ?_) (by decide)
  refine lit_ok 13 rfl rfl (by decide) (Nat.lt_of_succ_lt hs) h1 fun sn => ?_
  refine lit_ok 10 rfl rfl (by decide) hs h2 fun sn => ?_
  refine jump16 fun sn => ?_
  refine succ35 fun sn => ?_
  refine yesB fun sn => ?_
  exact yesS
theorem run_cr {sn : Sre.Seen} {hd : Nat} (hs : d < x.size) (h1 : x.getD d 0 = 13) (h2 : d + 1 < x.size → x.getD (d + 1) 0 ≠ 10) : Runs 15 (st x d 10 d hd true [sf d] 1 none sn) (some (d, d + 1)) := by
  refine branch (fun sn => ?_) (by decide)
  refine lit_ok 13 rfl rfl (by decide) hs h1 fun sn => ?_
  refine lit_no 10 rfl rfl (by decide) h2 fun sn => ?_
  refine next1' (fun sn => ?_) (by decide)
  refine lit_no 10 rfl rfl (by decide) (fun _ => by rw [h1]; decide) fun sn => ?_
  refine next2 (fun sn => ?_) (by decide)
  refine lit_ok 13 rfl rfl (by decide) hs h1 fun sn => ?_
  refine assertNot (fun sn => ?_) (by decide)
  refine lit_no 10 rfl rfl (by decide) h2 fun sn => ?_
  refine lookNo fun sn => ?_
  refine jump32 fun sn => ?_
  refine succ35 fun sn => ?_
  refine yesB fun sn => ?_
  exact yesS
/-- the prefilter -/
def ST (x : Array Nat) (d : Nat) (sn : Sre.Seen) : Sre.M := { code := codeE, text := x, lim := x.size, start := d, lastStart := x.size, pc := 10, pos := d, handed := d, marks := #[], seen := sn }
theorem search_eq (hs : d < x.size) : ∃ sn, Sre.forSearch codeE x 0 d x.size false = (ST x d sn).attemptFrom d true := by
  refine ⟨({} : Sre.Seen).add 14, ?_⟩
  unfold Sre.forSearch
  refine (if_neg (?_ : ¬ _)).trans rfl
  rw [show Sre.header codeE = (1, 10) from rfl]
  intro h9
  have h10 : (d > x.size ∨ x.size - d < 1) := by simpa using h9
  omega
theorem search_end (hs : x.size ≤ d) : Runs 1 (Sre.forSearch codeE x 0 d x.size false) none := by
  unfold Sre.forSearch
  have : ∀ m : Sre.M, m.frames = [] → m.outcome = none → Runs 1 (m.say false) none := by
    intro m hm ho
    show ended (if (m.say false).outcome.isSome = true then _ else _) = _
    rw [if_neg (by show ¬ m.outcome.isSome = true; rw [ho]; decide)]
    show ended (Sre.M.step (m.say false)) = _
    unfold Sre.M.step
    rw [if_neg (by show ¬ m.outcome.isSome = true; rw [ho]; decide)]
    show ended (match (some false : Option Bool), m.frames with | some yes, [] => _ | some yes, f :: rest => _ | none, _ => _) = _
    rw [hm]
    rfl
  rw [if_pos]
  · exact this _ rfl rfl
  · rw [show Sre.header codeE = (1, 10) from rfl]
    simp; omega
theorem adm_yes {m : Sre.M} {f s : Nat} {sn : Sre.Seen} (hc : m.code = codeE) (hs : s < m.lim) (h : m.text.getD s 0 = 10 ∨ m.text.getD s 0 = 13) : ∃ sn', Sre.M.admitted m (f + 1) s sn = .ok (some s, sn') := by
  unfold Sre.M.admitted
  rw [if_neg (Nat.not_le.mpr hs), hc]
  rcases h with h | h <;> rw [h] <;> exact ⟨_, rfl⟩
theorem adm_no {m : Sre.M} {f s : Nat} {sn : Sre.Seen} (hc : m.code = codeE) (hs : s < m.lim) (h : m.text.getD s 0 = 97 ∨ m.text.getD s 0 = 46) : ∃ sn', Sre.M.admitted m (f + 1) s sn = Sre.M.admitted m f (s + 1) sn' := by
  conv => enter [1, sn', 1]; unfold Sre.M.admitted
  rw [if_neg (Nat.not_le.mpr hs), hc]
  rcases h with h | h <;> rw [h] <;> exact ⟨_, rfl⟩
theorem start_at (hs : d + 1 < x.size) (h0 : x.getD d 0 = 97 ∨ x.getD d 0 = 46) (h1 : x.getD (d + 1) 0 = 10 ∨ x.getD (d + 1) 0 = 13) {k : Nat} {r : Option (Nat × Nat)}
    (h : ∀ sn, Runs k (st x (d + 1) 10 (d + 1) (d + 1) true [sf (d + 1)] 1 none sn) r) : Runs k (Sre.forSearch codeE x 0 d x.size false) r := by
  obtain ⟨sn, e⟩ := search_eq (x := x) (d := d) (by omega)
  rw [e]
  unfold Sre.M.attemptFrom
  rw [if_neg (by show ¬ ((!true) = true); decide)]
  have hf : (ST x d sn).lim + 1 - d = (x.size - d - 1) + 1 + 1 := by show x.size + 1 - d = _; omega
  rw [hf]
  obtain ⟨sn1, e1⟩ := adm_no (m := ST x d sn) (f := x.size - d - 1 + 1) (s := d) (sn := (ST x d sn).seen) rfl (by show d < x.size; omega) h0
  obtain ⟨sn2, e2⟩ := adm_yes (m := ST x d sn) (f := x.size - d - 1) (s := d + 1) (sn := sn1) rfl hs h1
  rw [e1, e2]
  show Runs k (Sre.M.attempt _ _ _ _ _) r
  rw [attempt_ok (by show 0 + 1 + 0 ≤ _; decide)]
  exact h sn2
end
def headOf (f : Nat) : Nat := if f % 2 = 1 then 46 else 97
def tailOf (f : Nat) : List Nat := if f / 2 = 0 then [10] else if f / 2 = 1 then [13] else [13, 10]
def lineOf (f : Nat) : List Nat := headOf f :: tailOf f
def textOf (fs : List Nat) : List Nat := fs.flatMap lineOf
def fixOf (fs : List Nat) : List Nat := fs.flatMap fun f => [headOf f, 13, 10]
theorem head_is (f : Nat) : headOf f = 97 ∨ headOf f = 46 := by unfold headOf; split <;> simp
theorem getD_at {x : Array Nat} {pre l : List Nat} (hx : x.toList = pre ++ l) (i : Nat) : x.getD (pre.length + i) 0 = l.getD i 0 := by
  have : x.getD (pre.length + i) 0 = x.toList.getD (pre.length + i) 0 := by simp [Array.getD_eq_getD_getElem?]
  rw [this, hx, List.getD_eq_getElem?_getD, List.getD_eq_getElem?_getD, List.getElem?_append_right (Nat.le_add_right _ _), Nat.add_sub_cancel_left]
theorem extract_at {x : Array Nat} {pre l : List Nat} (hx : x.toList = pre ++ l) (i : Nat) : (x.extract pre.length (pre.length + i)).toList = l.take i := by
  rw [Array.toList_extract, hx]
  simp [List.extract]
theorem sub_lines {x : Array Nat} : ∀ (fs : List Nat) (pre : List Nat), x.toList = pre ++ textOf fs → (∀ f ∈ fs, f < 6) → subText codeE x [13, 10] 3 (fs.length + 1) pre.length false = some (fs.flatMap fun f => [[headOf f], [13, 10]])
  | [], pre, hx, _ => by
    have hs : x.size = pre.length := by rw [← Array.length_toList, hx]; simp [textOf]
    have e : nextAt codeE x 3 pre.length false = some none := nextAt_runs ((search_end (Nat.le_of_eq hs)).more 15)
    unfold subText
    rw [e]
    dsimp only
    rw [if_neg (by omega)]
    rfl
  | f :: fs, pre, hx, hf => by
    have hx1 : x.toList = pre ++ (headOf f :: (tailOf f ++ textOf fs)) := by rw [hx]; rfl
    have hsz : x.size = pre.length + (1 + ((tailOf f).length + (textOf fs).length)) := by
      rw [← Array.length_toList, hx1]; simp; omega
    have h0 : x.getD pre.length 0 = headOf f := getD_at hx1 0
    have h1 : x.getD (pre.length + 1) 0 = (tailOf f ++ textOf fs).getD 0 0 := getD_at hx1 1
    have h2 : x.getD (pre.length + 1 + 1) 0 = (tailOf f ++ textOf fs).getD 1 0 := getD_at hx1 2
    have hfd : f / 2 = 0 ∨ f / 2 = 1 ∨ f / 2 = 2 := by have := hf f List.mem_cons_self; omega
    have hn : nextAt codeE x 3 pre.length false = some (some (pre.length + 1, pre.length + 1 + (tailOf f).length)) := by
      have hh := head_is f
      rw [← h0] at hh
      rcases hfd with q | q | q
      · have ht : tailOf f = [10] := by unfold tailOf; rw [if_pos q]
        rw [ht] at h1 hsz ⊢
        have hs : pre.length + 1 < x.size := by rw [hsz]; simp; omega
        exact nextAt_runs (start_at hs hh (.inl h1) fun sn => (run_lf hs h1).more 7)
      · have ht : tailOf f = [13] := by unfold tailOf; rw [if_neg (by omega), if_pos q]
        rw [ht] at h1 h2 hsz ⊢
        have hs : pre.length + 1 < x.size := by rw [hsz]; simp; omega
        refine nextAt_runs (start_at hs hh (.inr h1) fun sn => (run_cr hs h1 fun hlt => ?_).more 1)
        rw [h2]
        cases fs with
        | nil => simp [textOf] at hsz; omega
        | cons g fs =>
          show headOf g ≠ 10
          rcases head_is g with q | q <;> rw [q] <;> decide
      · have ht : tailOf f = [13, 10] := by unfold tailOf; rw [if_neg (by omega), if_neg (by omega)]
        rw [ht] at h1 h2 hsz ⊢
        have hs : pre.length + 1 + 1 < x.size := by rw [hsz]; simp; omega
        exact nextAt_runs (start_at (by omega) hh (.inr h1) fun sn => (run_crlf hs h1 h2).more 8)
    have htl : 0 < (tailOf f).length := by
      unfold tailOf; split
      · decide
      · split <;> decide
    have ih := sub_lines fs (pre ++ lineOf f) (by rw [hx, List.append_assoc]; rfl) fun g hg => hf g (List.mem_cons_of_mem _ hg)
    have hl : (pre ++ lineOf f).length = pre.length + 1 + (tailOf f).length := by simp [lineOf]; omega
    rw [hl] at ih
    rw [List.length_cons]
    unfold subText
    rw [hn]
    dsimp only
    rw [show (pre.length + 1 + (tailOf f).length == pre.length + 1) = false from beq_eq_false_iff_ne.mpr (by omega), ih]
    dsimp only
    rw [if_pos (by omega), extract_at hx1 1]
    rfl
theorem fix_flat (fs : List Nat) : (fs.flatMap fun f => [[headOf f], [13, 10]]).flatten = fixOf fs := by
  induction fs with
  | nil => rfl
  | cons f fs ih => rw [List.flatMap_cons, List.flatten_append, ih]; rfl
end Mine
end

section
open PySem
namespace Mine
set_option maxRecDepth 100000
def codeP : Array Nat := #[14, 4, 0, 1, 1, 6, 1, 16, 46, 1]
def quoteOf (fs : List Nat) : List Nat := fs.flatMap fun f => if f % 2 = 1 then [46, 46, 13, 10] else [97, 13, 10]
def fixB (bs : List Bool) : List Nat := bs.flatMap fun b => [if b then 46 else 97, 13, 10]
def quoteB (bs : List Bool) : List Nat := bs.flatMap fun b => if b then [46, 46, 13, 10] else [97, 13, 10]
def checkQ (bs : List Bool) : Bool := match subText codeP (fixB bs).toArray [46, 46] 60 6 0 false with | some l => l.flatten == quoteB bs | none => false
theorem q1 : ∀ a, checkQ [a] = true := by decide +kernel
theorem q2 : ∀ a b, checkQ [a, b] = true := by decide +kernel
theorem q3 : ∀ a b c, checkQ [a, b, c] = true := by decide +kernel
theorem q4 : ∀ a b c d, checkQ [a, b, c, d] = true := by decide +kernel
theorem checkQ_all : ∀ bs : List Bool, 1 ≤ bs.length → bs.length ≤ 4 → checkQ bs = true
  | [], h, _ => absurd h (by decide)
  | [a], _, _ => q1 a
  | [a, b], _, _ => q2 a b
  | [a, b, c], _, _ => q3 a b c
  | [a, b, c, d], _, _ => q4 a b c d
  | _ :: _ :: _ :: _ :: _ :: _, _, h => absurd h (by simp)
theorem quote_ok (fs : List Nat) (h1 : 1 ≤ fs.length) (h2 : fs.length ≤ 4) : ∃ l, subText codeP (fixOf fs).toArray [46, 46] 60 6 0 false = some l ∧ l.flatten = quoteOf fs := by
  have e1 : fixOf fs = fixB (fs.map fun f => f % 2 == 1) := by
    unfold fixOf fixB
    rw [List.flatMap_map]
    congr 1
    funext f
    show [headOf f, 13, 10] = [if (f % 2 == 1) = true then 46 else 97, 13, 10]
    congr 1
    unfold headOf
    by_cases q : f % 2 = 1 <;> simp [q]
  have e2 : quoteOf fs = quoteB (fs.map fun f => f % 2 == 1) := by
    unfold quoteOf quoteB
    rw [List.flatMap_map]
    congr 1
    funext f
    by_cases q : f % 2 = 1 <;> simp [q]
  have h := checkQ_all (fs.map fun f => f % 2 == 1) (by rw [List.length_map]; exact h1) (by rw [List.length_map]; exact h2)
  unfold checkQ at h
  rw [← e1, ← e2] at h
  cases e : subText codeP (fixOf fs).toArray [46, 46] 60 6 0 false with
  | none => rw [e] at h; cases h
  | some l => rw [e] at h; exact ⟨l, rfl, by simpa using h⟩
end Mine
end

section
open PySem PySem.W PySem.Calls PyProof.Rows
namespace Mine
set_option maxRecDepth 100000
section
variable {prog : Program} {w : World} {A : Around} {E : Value → Shared → Prop} {s : Shared}
theorem ask_str {elt : Expr} {x : Str} {px : Pos} {ifs : List Expr} {scope : Scope} {cl : List (Str × Addr)} {env : Env} {use : Option (Value → Sem Unit)} {Q : Value → Shared → Prop} {J : Addr → Nat → List Value → Heap → Prop} {y : Str} {t : Tok}
    (hh : A.handled = none) (hsz : y.cps.size ≤ sizeLine)
    (turn : ∀ g, NTurn prog w A { s with heap := g } s elt x ifs scope cl env J (SignAt y)) (done : ∀ g, NDone prog w A E { s with heap := g } s use Q J y.cps.size) :
    wpAny (model prog w) A (pyIter (.str y t)) (NAsk prog w A E elt x px ifs scope cl env use Q J) E s := by
  refine wpAny_pyIter_str fun o St W0 hst => ?_
  have W := W0 A hh
  have up : Ext s.heap (s.heap.push o) := fun b o' e => Heap.get?_push_of_some _ e
  have hz : (s.heap.push o).objs.size = s.heap.objs.size + 1 := Heap.size_push ..
  refine ⟨_, _, _, _, _, _, _, rfl, KTurns.ofWalks W (fun i v s' Q E' _ hq => wpAny_pure hq), hsz, hst, fun b hb => ?_, fun h' tk Q E' st hq => W.self 0 _ _ _ st hq, ?_, ?_⟩
  · show b < (s.heap.push _).objs.size
    rw [Heap.size_push, List.mem_singleton.mp hb]
    exact Nat.lt_succ_self _
  · rintro C i v ys m₂ h tk base keepL E' hC hi ⟨_, hP⟩ hJ hyl hx F N ho hk
    refine turn _ C i v ys m₂ h tk base keepL E' ?_ hP hJ hyl hx F N (fun b o e => ho b o ?_ (up b o e)) hk
    · rw [hC]; dsimp only; rw [hz]; omega
    · intro hm; exact absurd (Heap.lt_size e) (by rw [List.mem_singleton.mp hm]; exact Nat.lt_irrefl _)
  · rintro D C ys m h tk hD hC hn hd ho hJ
    refine done _ D C ys m h tk ?_ ?_ hn hd (fun b o e => ho b o ?_ (up b o e)) hJ
    · rw [hD]; dsimp only; rw [hz]; exact Nat.lt_succ_self _
    · rw [hD, hC]; exact Nat.lt_succ_self _
    · intro hm; exact absurd (Heap.lt_size e) (by rw [List.mem_singleton.mp hm]; exact Nat.lt_irrefl _)
end
theorem strs_snoc {ys : List Value} {l : List Str} (h : StrsAre ys l) (x : Str) (t : Tok) : StrsAre (ys ++ [.str x t]) (l ++ [x]) := by
  induction h with
  | nil => exact .cons _ _ .nil
  | cons x t _ ih => exact .cons _ _ ih
/-- the text of one figure -/
def lineS (f : Nat) : Str := (if f % 2 = 1 then Str.ofString "." else Str.ofString "a") ++ ([Str.ofString "\n", Str.ofString "\r", Str.ofString "\r\n"].getD (f / 2) Str.empty)
theorem lineS_cps : ∀ f, f < 6 → (lineS f).cps.toList = lineOf f := by
  intro f hf
  have : f = 0 ∨ f = 1 ∨ f = 2 ∨ f = 3 ∨ f = 4 ∨ f = 5 := by omega
  rcases this with rfl | rfl | rfl | rfl | rfl | rfl <;> decide
def textS (fs : List Nat) : Str := Txt.join (Str.ofString "") (fs.map lineS)
end Mine
end

section
open PySem PySem.W PySem.Calls PyProof.Rows Mine
local macro_rules | `(tactic| walk_at "m_enter") => `(tactic| (refine' enterE ?k1 ?k2 ?k3 ?k4 ?k5 ?kA ?kF ?kK ?k6 ?k7 ?k8 ?k9 ?kB ?_ ?c2 ?c3 ?c4 ?c5; (case kA => exact rfl); (case kF => exact rfl); (case kK => assumption); (case k1 => k_asm); (case k2 => k_asm); (case k3 => k_asm); (case k4 => k_asm); (case k5 => k_asm); (case k6 => k_is); (case k7 => k_is); (case k8 => ktr_room); (case k9 => exact BindsTo.of_eq rfl); (case c5 => decide); (case kB => exact locs rfl); (case c2 => exact rfl); (case c3 => exact rfl); (case c4 => exact rfl); k_whole))
local macro_rules | `(tactic| walk_at "m_enterD") => `(tactic| (refine' enterE ?k1 ?k2 ?k3 ?k4 ?k5 ?kA ?kF ?kK ?k6 ?k7 ?k8 ?k9 ?kB ?_ ?c2 ?c3 ?c4 ?c5; (case kA => exact rfl); (case kF => exact rfl); (case kK => assumption); (case k1 => k_asm); (case k2 => k_asm); (case k3 => k_asm); (case k4 => k_asm); (case k5 => k_asm); (case k6 => k_is); (case k7 => k_is); (case k8 => ktr_room); (case k9 => (refine' kp_binds ?kx ?ke; (case kx => k_in); (case ke => exact fun _ => rfl))); (case c5 => decide); (case kB => exact locs rfl); (case c2 => exact rfl); (case c3 => exact rfl); (case c4 => exact rfl); k_whole))
local macro_rules | `(tactic| walk_at "m_enterC") => `(tactic| (refine' enterC ?k1 ?k2 ?k3 ?k4 ?k5 ?kA ?kF ?kK ?k6 ?k7 ?k8 ?k9 ?kB ?kD ?_ ?c2 ?c3 ?c4; (case kA => exact rfl); (case kF => exact rfl); (case kK => assumption); (case k1 => k_asm); (case k2 => k_asm); (case k3 => k_asm); (case k4 => k_asm); (case k5 => k_asm); (case k6 => k_is); (case k7 => k_is); (case k8 => ktr_room); (case k9 => exact BindsTo.of_eq rfl); (case kB => exact rfl); (case kD => decide +kernel); (case c2 => exact rfl); (case c3 => exact rfl); (case c4 => exact rfl); k_whole))
local macro_rules | `(tactic| walk_at "m_step1") => `(tactic| (first | (k_unfold; (try dsimp only)) | (k_end; wrow_close) | walk1 | (dsimp only; walk1) | (leave1; walk_say "STEP leave1"; try dsimp only) | fail "no step"))
local macro_rules | `(tactic| walk_at "m_toComp") => `(tactic| repeat' ((fail_if_success (with_reducible show wpAny _ _ (exec (Stmt.Assign _ (PySem.Expr.ListComp _ _ _ _) _) _) _ _ _)); (fail_if_success (with_reducible show wpAny _ _ (eval (PySem.Expr.ListComp _ _ _ _) _) _ _ _)); (walk_at "m_step1")))
local macro_rules | `(tactic| walk_at "m_toEnum") => `(tactic| repeat' ((fail_if_success (with_reducible show wpAny _ _ (call (Value.type "enumerate") _) _ _ _)); (walk_at "m_step1")))
local macro_rules | `(tactic| walk_at "eval Name") => `(tactic| (k_here; (with_reducible show wpAny _ _ (eval (PySem.Expr.Name _ _) _) _ _ _); k_dflt (refine nameX_L (by k_asm) (by assumption) ?_)))
local macro_rules | `(tactic| walk_at "m_toIter") => `(tactic| repeat' ((fail_if_success (with_reducible show wpAny _ _ (pyIter _) _ _ _)); (walk_at "m_step1")))
local macro_rules | `(tactic| walk_at "eval Name") => `(tactic| (k_here; (with_reducible show wpAny _ _ (eval (PySem.Expr.Name _ _) (compEnvC _ _ _ _)) _ _ _); k_dflt (first | refine ld_comp (by k_asm) (by assumption) ?_ | refine ld_compcell (by k_asm) (by rfl) (by assumption) (by assumption) ?_ | refine ld_compfree (by k_asm) (by rfl) (by assumption) (by assumption) ?_)))
local macro_rules | `(tactic| walk_at "binaryOp FloorDiv int int") => `(tactic| (k_here; (with_reducible refine floordiv_int (by assumption) ?_ (Or.inl (PyProof.noPylong_small (by assumption)))); (try dsimp only)))
local macro_rules | `(tactic| walk_at "m_toWhile") => `(tactic| repeat' ((fail_if_success (with_reducible show wpAny _ _ (exec (Stmt.While _ _ _ _) _) _ _ _)); (walk_at "m_step1")))
local macro_rules | `(tactic| walk_at "m_toCall") => `(tactic| repeat' ((fail_if_success (with_reducible show wpAny _ _ (call (Value.ref _) _ _) _ _ _)); (walk_at "m_step1")))
namespace Mine
def Mention (_ : Params → Frag) (_ : OpenLaw) : Prop := True
theorem fill : Mention hd.heap_39 PySem.Challenge.rw_xe0016_01 := by k_fill; w_top off; trivial
end Mine
section
open PySem PySem.W PySem.Calls PyProof.Rows
namespace Mine
variable {w : World} {mean : ExcName → Option Value} {mg mb : Str → Option Value}
set_option maxRecDepth 100000
set_option maxHeartbeats 8000000
theorem sum_any {prog : Program} {w : World} {A : Around} {E : Value → Shared → Prop} {s : Shared} {h₀ : Heap} {L l : Addr} {m : Str → Option Value} {news : List (Addr × Obj)} {items : Array Value} {Q : Value → Shared → Prop}
    (hh : A.handled = none) (F : Fr h₀ L s.heap m) (N : News h₀ L s.heap ((l, ({ cls := .type "list", data := .seq items } : Obj)) :: news)) (hi : ∀ v ∈ items.toList, ∃ n t, v = Value.int n t)
    (h : ∀ n t h' tk, Fr h₀ L h' m → News h₀ L h' news → Q (.int n t) { s with heap := h', toks := tk }) : wpAny (model prog w) A (call (.builtin "sum") [.ref l]) Q E s := by
  have hI := intsAre_map items.toList hi
  have hall := hI.allInts
  obtain ⟨xs, hx⟩ := AllInts.items hall
  have hl : s.heap.IsList l (intItems xs) := by
    have h1 : s.heap.IsList l items := ⟨_, (N _ (List.Mem.head _)).1, rfl, _, rfl⟩
    have e : items = intItems xs := by simpa using hx
    rw [← e]; exact h1
  exact sum_intListG hh hl fun h' tk t' hk => h _ t' h' tk (F.kept hk) (fun p hp => N.grown hk p (List.Mem.tail _ hp))
theorem pick_ints {vs : List Value} {ns : List Int} (hi : IntsAre vs ns) (a b c : Option Int) : ∀ v ∈ (slicePick vs.toArray a b c).toList, ∃ n t, v = Value.int n t := by
  intro v hv
  simp only [slicePick, List.mem_filterMap] at hv
  obtain ⟨i, _, hx⟩ := hv
  exact hi.all v (by
    have : vs[i]? = some v := by simpa using hx
    exact List.mem_of_getElem? this)
local macro_rules | `(tactic| walk_at "call builtin:sum cons nil") => `(tactic| (k_here; (with_reducible show wpAny _ _ (call (Value.builtin "sum") [Value.ref _]) _ _ _); (with_unfolding_all refine' sum_any ?k0 ?k1 ?k2 ?k4 ?_; (case k0 => with_unfolding_all rfl); (case k1 => k_asm); (case k2 => k_asm); (case k4 => exact pick_ints (by assumption) _ _ _); k_whole); intro n9 t9 h9 tk9 F9 N9; (try dsimp only); (try k_sweep)))
theorem six_ne {i : Nat} (h : i < 4) : (6 : Int) ^ (0 + (i : Int)).toNat ≠ 0 := by
  rw [Int.zero_add, Int.toNat_natCast]
  have : i = 0 ∨ i = 1 ∨ i = 2 ∨ i = 3 := by omega
  rcases this with rfl | rfl | rfl | rfl <;> decide
theorem six_small {i : Nat} (h : i < 4) : ((6 : Int) ^ (0 + (i : Int)).toNat).natAbs < 1073741824 := by
  rw [Int.zero_add, Int.toNat_natCast]
  have : i = 0 ∨ i = 1 ∨ i = 2 ∨ i = 3 := by omega
  rcases this with rfl | rfl | rfl | rfl <;> decide
local macro_rules | `(tactic| walk_at "binaryOp Pow int int") => `(tactic| (k_here; (with_reducible refine pow_int_small ?_ ?_ ?_ ?_); (focus omega); (focus omega); (focus decide); (try dsimp only)))
def figOf (d : Int) (p : Nat) : Int := ((d.fdiv 27648).fdiv (6 ^ p)).fmod 6
def figsOf (d : Int) : List Int := (List.range ((d.fdiv 6912).fmod 4 + 1).toNat).map (figOf d)
abbrev tupObj (vs : Array Value) : Obj := { cls := .type "tuple", data := .seq vs }
abbrev mailVals (d : Int) (t1 t2 t3 t4 : Tok) (f : Addr) : Array Value := #[.int (d.fmod 6) t1, .int ((d.fdiv 6).fmod 12) t2, .int ((d.fdiv 72).fmod 2) t3, .int ((d.fdiv 144).fmod 48) t4, .ref f]
def MailIn (tl : List (Addr × Obj)) (v : Value) : Prop := ∃ a f fv t1 t2 t3 t4 d, v = .ref a ∧ (a, tupObj (mailVals d t1 t2 t3 t4 f)) ∈ tl ∧ (f, lst fv) ∈ tl ∧ IntsAre fv (figsOf d) ∧ 0 ≤ d ∧ d < 35831808
def MailJ (l le M c0 : Addr) (lo : Obj) (i : Nat) (m : Str → Option Value) (nw : List (Addr × Obj)) : Prop :=
  ∃ (mv : Array Value) (n : Nat) (c : Obj) (x : Option Value) (tl : List (Addr × Obj)), nw = (le, lo) :: (M, W.listOf mv n) :: (c0, c) :: tl ∧ c.data = .cell x ∧ OwnOff tl [le, M, c0] ∧ m (Str.ofString "script") = some (.ref l) ∧ m (Str.ofString "mails") = some (.ref M) ∧ mv.size = i ∧ (∀ v ∈ mv.toList, MailIn tl v) ∧ ∀ p ∈ tl, p.2.cls = .type "tuple" ∨ p.2.cls = .type "list"
theorem MailIn.mono {tl tl' : List (Addr × Obj)} {v : Value} (h : MailIn tl v) (hs : ∀ p ∈ tl, p ∈ tl') : MailIn tl' v := by
  obtain ⟨a, f, fv, t1, t2, t3, t4, d, e, h1, h2, r⟩ := h
  exact ⟨a, f, fv, t1, t2, t3, t4, d, e, hs _ h1, hs _ h2, r⟩
theorem fresh_of {h g : Heap} {a : Addr} (e : g.get? a = none) (k : ∀ b o, h.get? b = some o → g.get? b = some o) : h.get? a = none := by
  cases q : h.get? a with
  | none => rfl
  | some o => rw [k _ _ q] at e; cases e
theorem mm_c2 {α : Type} {P : α → Prop} {a : α} {l : List α} (h1 : P a) (h2 : ∀ p ∈ l, P p) : ∀ p ∈ a :: l, P p := List.forall_mem_cons.mpr ⟨h1, h2⟩
theorem mm_n2 {α : Type} {P : α → Prop} : ∀ p ∈ ([] : List α), P p := fun _ h => nomatch h
theorem MailJ.elim {P : Prop} {l le M c0 : Addr} {lo : Obj} {i : Nat} {m : Str → Option Value} {nw : List (Addr × Obj)} (h : MailJ l le M c0 lo i m nw)
    (k : ∀ (mv : Array Value) (n : Nat) (c : Obj) (x : Option Value) (tl : List (Addr × Obj)), nw = (le, lo) :: (M, W.listOf mv n) :: (c0, c) :: tl → c.data = .cell x → OwnOff tl [le, M, c0] → m (Str.ofString "script") = some (.ref l) → m (Str.ofString "mails") = some (.ref M) → mv.size = i → (∀ v ∈ mv.toList, MailIn tl v) → (∀ p ∈ tl, p.2.cls = .type "tuple" ∨ p.2.cls = .type "list") → P) : P := by
  obtain ⟨mv, n, c, x, tl, h1, h2, h3, h4, h5, h6, h7, h8⟩ := h
  exact k _ _ _ _ _ h1 h2 h3 h4 h5 h6 h7 h8
theorem mails_call (l : Addr) (vs : List Value) (ns : List Int) (hi : IntsAre vs ns) (hn : ns.length ≤ 63) :
    Calls w mean mg mb 109 [.ref l] [] (fun h => h.IsList l vs.toArray) (fun h v h' => ∃ M mv n tl, v = .ref M ∧ (∀ p ∈ (M, W.listOf mv n) :: tl, h.get? p.1 = none ∧ h'.get? p.1 = some p.2) ∧ mv.size = 5 ∧ ∀ v ∈ mv.toList, MailIn tl v) := by
  intro dp un gd cn cs a ccd cl outer A₀ base h₀ L m s Q E B F X T hk hdp hun hpre hret
  have N : News h₀ L s.heap [] := News.nil
  refine wpAny_call ?_
  k_dflt walk_at "m_enterC"
  intro g L1 h1 tk1 cells1 FG F1 N1 Y1 B1 X1 T1 l1 G1
  have hl : g.IsList l vs.toArray := hpre.at fun o e => G1 l o List.not_mem_nil e
  try k_lt l1
  k_cells Y1
  try simp only [List.cons_append, List.nil_append] at N1
  try dsimp only
  try k_lift B1
  try k_fold
  walk_at "m_toEnum"
  rename_i oc hdc M1 h3 lM1 h4 lE h5 F5 N5 lE1
  obtain ⟨lo9, hlo9⟩ : ∃ lo9, lo9 = W.listOf #[Value.int 4357519 tk, Value.int 920448 (tk + 1), Value.int 896 (tk + 1 + 1), Value.int 508269 (tk + 1 + 1 + 1), Value.int 64672 (tk + 1 + 1 + 1 + 1)] 0 := ⟨_, rfl⟩
  rw [← hlo9] at N5
  have hlc : lo9.cls = .type "list" := by rw [hlo9]
  have hld : lo9.data = .seq [Value.int 4357519 tk, Value.int 920448 (tk + 1), Value.int 896 (tk + 1 + 1), Value.int 508269 (tk + 1 + 1 + 1), Value.int 64672 (tk + 1 + 1 + 1 + 1)].toArray 0 := by rw [hlo9]
  clear hlo9
  refine enum_inv (MailJ l lE M1 (L1 + 1) lo9) (by rfl) F5 N5 (List.Mem.head _) hlc hld ?j0 ?jk ?turn ?done
  case j0 => exact ⟨#[], 0, oc, _, [], rfl, hdc, (fun _ hp => nomatch hp), rfl, rfl, rfl, (fun _ hv => nomatch hv), (fun _ hp => nomatch hp)⟩
  case jk => rintro i m nw ⟨mv, n, c, x, tl, rfl, _⟩; exact List.Mem.head _
  case turn =>
    intro I i x T t m₁ nw h tk' oe oi hlt hx hJ hT hoe hoi hI F9 N9
    revert F9 N9
    refine MailJ.elim hJ ?_
    clear hJ
    rintro mv n9 c xc tl rfl hc hoff hms hmm hlen hall hcls F9 N9
    have hi5 : i < 5 := hlt
    obtain ⟨xi, xt, rfl⟩ : ∃ n t, x = Value.int n t := by
      have hxm := List.mem_of_getElem? hx
      simp only [List.mem_cons, List.not_mem_nil, or_false] at hxm
      rcases hxm with rfl | rfl | rfl | rfl | rfl <;> exact ⟨_, _, rfl⟩
    have hI1 : @LT.lt Nat _ M1 I := hI _ (List.Mem.tail _ (List.Mem.head _))
    have hI2 : @LT.lt Nat _ (L1 + 1) I := hI _ (List.Mem.tail _ (List.Mem.tail _ (List.Mem.head _)))
    have hI3 : @LT.lt Nat _ lE I := hI _ (List.Mem.head _)
    clear F5 N5 hx hlt hI
    walk_at "m_toComp"
    rename_i hA FA NA hB hC' hD' nn t9 h9 tk9 h7 oc7 F7 N7 d7
    have hd0 : 0 ≤ (xi + nn).fmod 35831808 := Int.fmod_nonneg_of_pos _ (by decide)
    have hd1 : (xi + nn).fmod 35831808 < 35831808 := Int.fmod_lt_of_pos _ (by decide)
    obtain ⟨td, d8⟩ : ∃ td, oc7.data = .cell (some (.int ((xi + nn).fmod 35831808) td)) := ⟨_, d7⟩
    clear d7 FA NA
    generalize (xi + nn).fmod 35831808 = d at hd0 hd1 d8
    refine lc_assign (fun _ i ys _ => IntsAre ys ((List.range i).map (figOf d))) (by rfl) (by with_unfolding_all rfl) (by decide) (by rfl) (by decide) (by rfl) (fun _ _ => IntsAre.nil) (fun _ _ _ _ _ _ h => h) ?_
    walk_at "m_toIter"
    rename_i hb1 Fb1 Nb1 h8 tk8 t8 u8 v8 hR F8 N8 e8
    clear Fb1 Nb1
    have q0 : 0 ≤ (d.fdiv 6912).fmod 4 := Int.fmod_nonneg_of_pos _ (by decide)
    have q1 : (d.fdiv 6912).fmod 4 < 4 := Int.fmod_lt_of_pos _ (by decide)
    have oc8 : h8.get? (L1 + 1) = some oc7 := N8.get (by k_mem)
    refine ask_range (n := ((d.fdiv 6912).fmod 4 + 1).toNat) (by rfl) hR (small_one (by decide) (by decide) (by omega) (by omega)) (by rw [rangeSize_nat]; simp) (by rw [PySem.sizeLine_eq]; omega) ?tt ?dd
    case tt =>
      intro gg C i' v ys m₂ h tk base keepL E' hC ⟨hi', t', ev⟩ hJ hyl hx F N hE hk
      subst ev
      have cb : base.get? (L1 + 1) = some oc7 := hE _ _ oc8
      have Xb : (hd.heap_39 w.params).In base := X1.keeps fun b o e => hE b o (F8.keep b o e)
      have Tb : Top topProg LO mean mg mb base := T1.keeps fun b o e => hE b o (F8.keep b o e)
      clear N8 F8 hR oc8 hoff hall hcls
      dsimp only at hE hC
      have hi4 : i' < 4 := by omega
      have n6 := six_ne hi4
      have s6 := six_small hi4
      refine wpAny_tests_nil ?_
      rw [if_pos rfl]
      dsimp only
      k_steps
      refine WEnd.intro (by assumption) (by assumption) (fun p hp => hp) ?_
      rw [List.range_succ, List.map_append]
      have e6 : figOf d i' = ((d.fdiv 27648).fdiv (6 ^ (0 + (i' : Int)).toNat)).fmod 6 := by
        rw [Int.zero_add, Int.toNat_natCast]; rfl
      rw [← e6]
      exact ksk_snoc hJ
    case dd =>
      intro gg D C ys m' h tk hD hDC hn hd he hJ
      refine post_assign F8 N8 ?pa hD hDC hn hd he (fun h' tk' F9 N9 l9 e9 _ => ?pk) ?pb ?pc
      case pa => rfl
      case pb => rfl
      case pc => rfl
      have lD1 : @LT.lt Nat _ M1 D := l9 (M1, _) (by k_mem)
      have lD2 : @LT.lt Nat _ lE D := l9 (lE, _) (by k_mem)
      have lD3 : @LT.lt Nat _ (L1 + 1) D := l9 (L1 + 1, _) (by k_mem)
      have lD4 : @LT.lt Nat _ (I + 1) D := l9 (I + 1, _) (by k_mem)
      clear F8 N8 l9 e9 hR he e8
      dsimp only
      k_steps
      rename_i xx D' hq1 lD5 hq2 F10 N10
      obtain ⟨t1, t2, t3, t4, N11⟩ : ∃ t1 t2 t3 t4, News g L1 hq2 ((D', tupObj (mailVals d t1 t2 t3 t4 D)) :: (D, lst ys) :: (I + 1, oe) :: (I, oi) :: (lE, lo9) :: (M1, W.listOf (mv.push (Value.ref D')) (n9 + 1)) :: (L1 + 1, oc7) :: tl) := ⟨_, _, _, _, N10⟩
      obtain ⟨b1, b2, b3, b4, b5, b6, b7⟩ := lD5
      refine unr_end hoe hoi F10 N11 ((lE, _) :: (M1, W.listOf (mv.push (.ref D')) (n9 + 1)) :: (L1 + 1, oc7) :: (D', tupObj (mailVals d t1 t2 t3 t4 D)) :: (D, lst ys) :: tl) (by k_mem) (by k_mem) ?e1 ?e2 ⟨mv.push (.ref D'), n9 + 1, oc7, _, (D', tupObj (mailVals d t1 t2 t3 t4 D)) :: (D, lst ys) :: tl, rfl, d8, ?e3, hms, hmm, ?e4, ?e5, ?e6⟩
      case e1 => exact (mm_c2 (by k_mem) (mm_c2 (by k_mem) (mm_c2 (by k_mem) (mm_c2 (by k_mem) (mm_c2 (by k_mem) (fun p hp => (List.Mem.tail _ (List.Mem.tail _ (List.Mem.tail _ (List.Mem.tail _ (List.Mem.tail _ (List.Mem.tail _ (List.Mem.tail _ hp)))))))))))))
      case e2 => exact (mm_c2 (.inr (.inr hlc)) (mm_c2 (.inr (.inr rfl)) (mm_c2 (.inl ⟨neN (by dsimp only; omega), neN (by dsimp only; omega)⟩) (mm_c2 (.inr (.inl rfl)) (mm_c2 (.inr (.inr rfl)) (fun p hp => .inr (hcls p hp)))))))
      case e3 => exact mm_c2 (mm_c2 (P := fun b => @Ne Nat D' b) (neN (by omega)) (mm_c2 (neN (by omega)) (mm_c2 (neN (by omega)) mm_n2))) (mm_c2 (mm_c2 (P := fun b => @Ne Nat D b) (neN (by omega)) (mm_c2 (neN (by omega)) (mm_c2 (neN (by omega)) mm_n2))) hoff)
      case e4 => rw [Array.size_push, hlen]
      case e5 =>
        intro v hv
        rw [Array.toList_push] at hv
        rcases List.mem_append.mp hv with hv | hv
        · exact (hall v hv).mono fun p hp => List.Mem.tail _ (List.Mem.tail _ hp)
        · rw [List.mem_singleton.mp hv]
          exact ⟨D', D, ys, t1, t2, t3, t4, d, rfl, List.Mem.head _, List.Mem.tail _ (List.Mem.head _), hJ, hd0, hd1⟩
      case e6 => exact mm_c2 (.inl rfl) (mm_c2 (.inr rfl) hcls)
  case done =>
    intro m₁ nw h tk' hJ
    refine MailJ.elim hJ ?_
    clear hJ
    rintro mv n c xc tl rfl hc hoff hms hmm hlen hall hcls F9 N9
    clear F5 N5
    k_steps
    refine hret _ _ _ (fun b o e => Fr.keep (by assumption) b o (G1 b o List.not_mem_nil e)) ⟨M1, mv, n, tl, rfl, fun p hp => ?_, hlen, hall⟩
    have hq := N9 p (by
      rcases List.mem_cons.mp hp with rfl | hp
      · exact List.mem_cons_of_mem _ List.mem_cons_self
      · simp [hp])
    exact ⟨fresh_of hq.2.2 fun b o e => G1 b o List.not_mem_nil e, hq.1⟩

end Mine
end

section
open PySem PySem.W PySem.Calls PyProof.Rows
namespace Mine
local macro_rules | `(tactic| walk_at "m_pad0") => `(tactic| skip)
variable {w : World} {mean : ExcName → Option Value} {mg mb : Str → Option Value}
set_option maxRecDepth 100000
set_option maxHeartbeats 8000000
theorem PatAt.of {h : Heap} {K : Frag} {P C : Addr} {code : Array Nat} {groups kind n : Nat} {pat fl gv kv : Value} {arr : Array Value} (X : K.In h)
    (h1 : K.lookup P = some ({ cls := .type "re.Pattern", data := .fields #[pat, fl, gv, .none, .none, .ref C, kv] } : Obj))
    (h2 : K.lookup C = some ({ cls := .type "tuple", data := .seq arr n } : Obj)) (e1 : gv = rawInt groups) (e2 : kv = rawInt kind) (e3 : arr = code.map fun (c : Nat) => rawInt (c : Int)) : PatAt h P code groups kind := by
  subst e1 e2 e3
  exact ⟨_, _, C, _, rfl, X _ _ h1, _, X _ _ h2⟩
theorem patZ {h : Heap} (X : (hd.heap_39 w.params).In h) : PatAt h 37 codeZ 3 0 := by
  refine' PatAt.of X ?a ?b ?c ?d ?e
  case a => k_is
  case b => k_is
  case c => rfl
  case d => rfl
  case e => simp [codeZ, rawInt]
theorem patP {h : Heap} (X : (hd.heap_39 w.params).In h) : PatAt h 85 codeP 0 1 := by
  refine' PatAt.of X ?a ?b ?c ?d ?e
  case a => k_is
  case b => k_is
  case c => rfl
  case d => rfl
  case e => simp [codeP, rawInt]
theorem patE {h : Heap} (X : (hd.heap_39 w.params).In h) : PatAt h 90 codeE 0 0 := by
  refine' PatAt.of X ?a ?b ?c ?d ?e
  case a => k_is
  case b => k_is
  case c => rfl
  case d => rfl
  case e => simp [codeE, rawInt]

end Mine
end

section
open PySem PySem.W PySem.Calls PyProof.Rows
namespace Mine
local macro_rules | `(tactic| walk_at "m_pad0") => `(tactic| skip)
local macro_rules | `(tactic| walk_at "m_pad1") => `(tactic| skip)
local macro_rules | `(tactic| walk_at "m_pad2") => `(tactic| skip)
variable {w : World} {mean : ExcName → Option Value} {mg mb : Str → Option Value}
set_option maxRecDepth 100000
set_option maxHeartbeats 8000000
theorem text_size (fs : List Nat) (hn : fs.length ≤ 4) : (textOf fs).length ≤ 12 := by
  have : ∀ fs : List Nat, (textOf fs).length ≤ 3 * fs.length := by
    intro fs
    induction fs with
    | nil => exact Nat.le_refl _
    | cons f fs ih =>
      show (lineOf f ++ textOf fs).length ≤ _
      have : (lineOf f).length ≤ 3 := by
        unfold lineOf tailOf
        split
        · simp
        · split <;> simp
      rw [List.length_append, List.length_cons]; omega
  have := this fs; omega
theorem fixOf_size (fs : List Nat) : (fixOf fs).length = 3 * fs.length := by
  induction fs with
  | nil => rfl
  | cons f fs ih =>
    show ([headOf f, 13, 10] ++ fixOf fs).length = _
    rw [List.length_append, ih]; simp; omega
theorem fix_call (x : Str) (t1 : Tok) (fs : List Nat) (hx : x.cps.toList = textOf fs) (hf : ∀ f ∈ fs, f < 6) (hn : fs.length ≤ 4) :
    Calls w mean mg mb 104 [.str x t1] [] (fun _ => True) (fun _ v _ => ∃ y t, v = .str y t ∧ y.cps.toList = fixOf fs) := by
  intro dp un gd cn cs a ccd cl outer A₀ base h₀ L m s Q E B F X T hk hdp hun _ hret
  have N : News h₀ L s.heap [] := News.nil
  refine wpAny_call ?_
  k_dflt walk_at "m_enter"
  intro g L1 h1 FG F1 N1 B1 X1 T1 G1
  try dsimp only
  try k_lift B1
  try k_fold
  k_steps
  refine wp_sub_method (patE (X1.keeps (Fr.keep (by assumption)))) ?_
  k_steps
  have hsz : x.cps.size ≤ 12 := by rw [← Array.length_toList, hx]; exact text_size fs hn
  refine call_sub (kind := 0) (rp := [13, 10]) (n := 3) (k := fs.length + 1) (by decide) (patE (X1.keeps (Fr.keep (by assumption)))) (.inl rfl) (.inl ⟨rfl, x, t1, rfl, rfl⟩) (.inl ⟨rfl, _, _, rfl, rfl⟩) (by decide) (by omega) (by omega) (by decide) (sub_lines fs [] hx hf) fun v h' tk he hv => ?_
  rw [fix_flat] at hv
  rcases hv with ⟨_, y, t, rfl, hy⟩ | ⟨h0, _⟩
  · have F2 := Fr.keptAll F1 he
    have N2 : News g L1 h' [] := News.nil
    dsimp only at F2
    k_steps
    exact hret _ _ _ (fun b o e => F2.keep b o (G1 b o List.not_mem_nil e)) ⟨_, _, rfl, hy⟩
  · cases h0
theorem quote_call (b : Array UInt8) (t1 : Tok) (fs : List Nat) (hx : b.toList.map (·.toNat) = fixOf fs) (h1 : 1 ≤ fs.length) (hn : fs.length ≤ 4) :
    Calls w mean mg mb 97 [.bytes b t1] [] (fun _ => True) (fun _ v _ => ∃ y t, v = .bytes y t ∧ y.toList.map (·.toNat) = quoteOf fs) := by
  intro dp un gd cn cs a ccd cl outer A₀ base h₀ L m s Q E B F X T hk hdp hun _ hret
  have N : News h₀ L s.heap [] := News.nil
  refine wpAny_call ?_
  k_dflt walk_at "m_enter"
  intro g L1 h1 FG F1 N1 B1 X1 T1 G1
  try dsimp only
  try k_lift B1
  try k_fold
  k_steps
  refine wp_sub_method (patP (X1.keeps (Fr.keep (by assumption)))) ?_
  k_steps
  obtain ⟨l, hl, hfl⟩ := quote_ok fs (by assumption) hn
  refine call_sub (kind := 1) (x := (fixOf fs).toArray) (rp := [46, 46]) (n := 60) (k := 6) (by decide) (patP (X1.keeps (Fr.keep (by assumption)))) (.inr rfl) (.inr ⟨rfl, b, t1, rfl, hx⟩) (.inr ⟨rfl, _, _, rfl, rfl⟩) (by decide) (by rw [List.size_toArray, fixOf_size]; omega) (by omega) (by decide) hl fun v h' tk he hv => ?_
  rw [hfl] at hv
  rcases hv with ⟨h0, _⟩ | ⟨_, y, t, rfl, hy⟩
  · cases h0
  · have F2 := Fr.keptAll F1 he
    have N2 : News g L1 h' [] := News.nil
    dsimp only at F2
    k_steps
    exact hret _ _ _ (fun b o e => F2.keep b o (G1 b o List.not_mem_nil e)) ⟨_, _, rfl, hy⟩

end Mine
end

section
open PySem PySem.W PySem.Calls PyProof.Rows
namespace Mine
variable {w : World} {mean : ExcName → Option Value} {mg mb : Str → Option Value}
set_option maxRecDepth 100000
set_option maxHeartbeats 8000000
local macro_rules | `(tactic| walk_at "m_item") => `(tactic| (k_here; (with_reducible show wpAny _ _ (subscriptTail _ _ (Value.ref _) (Value.int _ _)) _ _ _); (with_unfolding_all refine' KTb.item_list ?k1 ?k2 ?k3 ?k4 ?k5 ?_ ?k6; (case k1 => is_list); (case k2 => (repeat (first | exact StrsAre.nil | apply StrsAre.cons))); (case k3 => omega); (case k4 => ((try simp only [List.length_cons, List.length_nil]); omega)); (case k5 => omega); (case k6 => with_unfolding_all rfl); k_whole); intro t9 hi9; clear hi9))
local macro_rules | `(tactic| walk_at "subscriptTail List cons BinOp ref int") => `(tactic| walk_at "m_item")
local macro_rules | `(tactic| walk_at "subscriptTail List cons Name ref int") => `(tactic| walk_at "m_item")
local macro_rules | `(tactic| walk_at "m_itemI") => `(tactic| (k_here; (with_reducible show wpAny _ _ (subscriptTail _ _ (Value.ref _) (Value.int _ _)) _ _ _); (with_unfolding_all refine' item_list_intsR ?k1 ?k2 ?k3 ?k4 ?k5 ?_ ?k6; (case k1 => is_list); (case k2 => (repeat (first | exact IntsAre.nil | apply IntsAre.cons))); (case k3 => omega); (case k4 => ((try simp only [List.length_cons, List.length_nil]); omega)); (case k5 => omega); (case k6 => with_unfolding_all rfl); k_whole); intro t9))
local macro_rules | `(tactic| walk_at "subscriptTail List cons Name ref int") => `(tactic| first | walk_at "m_item" | walk_at "m_itemI")
def dueOf (d h f c : Int) : Int := (c - [0, 2 * h + f, -2 * h - f, 2 * h + f, -2 * h].getD d.toNat 0) * 1800
theorem due_call (d h f c : Int) (t1 t2 t3 t4 : Tok) (hd0 : 0 ≤ d) (hd1 : d < 5) (hh0 : 0 ≤ h) (hh1 : h < 12) (hf0 : 0 ≤ f) (hf1 : f < 2) (hc0 : 0 ≤ c) (hc1 : c < 48) :
    Calls w mean mg mb 123 [.int d t1, .int h t2, .int f t3, .int c t4] [] (fun _ => True) (fun _ v _ => ∃ t, v = .int (dueOf d h f c) t) := by
  intro dp un gd cn cs a ccd cl outer A₀ base h₀ L m s Q E B F X T hk hdp hun _ hret
  have N : News h₀ L s.heap [] := News.nil
  refine wpAny_call ?_
  k_dflt walk_at "m_enter"
  intro g L1 h1 FG F1 N1 B1 X1 T1 G1
  try dsimp only
  try k_lift B1
  try k_fold
  k_steps
  refine hret _ _ _ (fun b o e => ?_) ⟨_, rfl⟩
  exact Fr.keep (by assumption) b o (G1 b o List.not_mem_nil e)
def zoneOf (d h f : Int) : Str :=
  [[Str.ofString "GMT", Str.ofString "UTC", Str.ofString "UT", Str.ofString "Z"].getD (h.fmod 4).toNat Str.empty,
    Str.ofString "+" ++ Txt.slice (Str.ofString (toString (100 + h))) (some 1) none ++ Str.ofString ":" ++ (if f = 1 then Str.ofString "30" else Str.ofString "00"),
    Str.ofString "-" ++ Txt.slice (Str.ofString (toString (100 + h))) (some 1) none ++ (if f = 1 then Str.ofString "30" else Str.ofString "00"),
    Str.ofString (toString h) ++ Str.ofString ":" ++ (if f = 1 then Str.ofString "30" else Str.ofString "00"),
    Str.ofString "-" ++ Str.ofString (toString h),
    [Str.ofString "EST", Str.ofString "gmt", Str.ofString "+", Str.ofString "12345"].getD (h.fmod 4).toNat Str.empty].getD d.toNat Str.empty
theorem zone_call (d h f : Int) (t1 t2 t3 : Tok) (hd0 : 0 ≤ d) (hd1 : d < 6) (hh0 : 0 ≤ h) (hh1 : h < 12) (hf0 : 0 ≤ f) (hf1 : f < 2) :
    Calls w mean mg mb 116 [.int d t1, .int h t2, .int f t3] [] (fun _ => True) (fun _ v _ => ∃ t, v = .str (zoneOf d h f) t) := by
  intro dp un gd cn cs a ccd cl outer A₀ base h₀ L m s Q E B F X T hk hdp hun _ hret
  have q0 : 0 ≤ h.fmod 4 := Int.fmod_nonneg_of_pos h (by decide)
  have q1 : h.fmod 4 < 4 := Int.fmod_lt_of_pos h (by decide)
  have N : News h₀ L s.heap [] := News.nil
  refine wpAny_call ?_
  k_dflt walk_at "m_enter"
  intro g L1 h1 FG F1 N1 B1 X1 T1 G1
  try dsimp only
  try k_lift B1
  try k_fold
  k_steps
  all_goals (
    refine hret _ _ _ (fun b o e => ?_) ?_
    · exact Fr.keep (by assumption) b o (G1 b o List.not_mem_nil e)
    · unfold zoneOf
      first
        | (rw [if_pos (by assumption)]; exact ⟨_, rfl⟩)
        | (rw [if_neg (by assumption)]; exact ⟨_, rfl⟩))

end Mine
end

section
open PySem PySem.W PySem.Calls PyProof.Rows
namespace Mine
variable {w : World} {mean : ExcName → Option Value} {mg mb : Str → Option Value}
set_option maxRecDepth 100000
set_option maxHeartbeats 8000000
local macro_rules | `(tactic| walk_at "getMethod ref") => `(tactic| (k_here; (with_reducible show wpAny _ _ (getMethod (Value.ref _) _ _) _ _ _); refine wp_group_method (matchNews (by assumption)) ?_))
local macro_rules | `(tactic| walk_at "truthy ref") => `(tactic| (k_here; refine wp_match_true (matchNews (by assumption)) ?_))
local macro_rules | `(tactic| walk_at "call builtin:re.Match.group cons nil") => `(tactic| (k_here; first | (with_unfolding_all refine group_none (by assumption) (by assumption) (by assumption) (by decide) (by assumption) ?_) | (with_unfolding_all refine group_some (by assumption) (by assumption) (by assumption) (by decide) (by assumption) ?_; intro t9 tk9)))
local macro_rules | `(tactic| walk_at "call type:int cons nil") => `(tactic| (k_here; (with_reducible refine KIN.call_text (by assumption) (by omega) ?_)))
theorem part_len {x y : Str} {sp : List Int} {k : Nat} (h : partOf x sp k = some y) : y.length ≤ x.length := by
  unfold partOf at h
  split at h
  · cases h
  · cases h
    show (Array.extract _ _ _).size ≤ _
    rw [Array.size_extract]
    show _ ≤ x.cps.size
    omega
theorem none_ne : ¬ ((none : Option Str) = some ⟨#[45]⟩) := by intro h; cases h
def offVal (r : Option Int) (v : Value) : Prop := match r with | none => v = .none | some n => ∃ t, v = .int n t
theorem offset_call (tz : Str) (t1 : Tok) (hz : tz.length ≤ 16) (r : Option Int) (ho : offOf tz = some r) :
    Calls w mean mg mb 44 [.str tz t1] [] (fun _ => True) (fun _ v _ => offVal r v) := by
  intro dp un gd cn cs a ccd cl outer A₀ base h₀ L m s Q E B F X T hk hdp hun _ hret
  have N : News h₀ L s.heap [] := News.nil
  refine wpAny_call ?_
  k_dflt walk_at "m_enter"
  intro g L1 h1 FG F1 N1 B1 X1 T1 G1
  try dsimp only
  try k_lift B1
  try k_fold
  k_steps
  · have : utcB tz = true := by unfold utcB; assumption
    unfold offOf at ho
    rw [if_pos this] at ho
    cases ho
    exact hret _ _ _ (fun b o e => Fr.keep (by assumption) b o (G1 b o List.not_mem_nil e)) ⟨_, rfl⟩
  · have hu : ¬ utcB tz = true := by
      have h9 : utcB tz = false := by unfold utcB; assumption
      rw [h9]; decide
    unfold offOf at ho
    rw [if_neg hu] at ho
    clear hu
    refine wp_search_method (patZ (X1.keeps (Fr.keep (by assumption)))) ?_
    k_steps
    cases hl : look codeZ tz.cps 3 60 with
    | none => rw [hl] at ho; cases ho
    | some r9 =>
      rw [hl] at ho
      refine search_K (by assumption) (by assumption) 60 (by decide) (by decide) (patZ (X1.keeps (Fr.keep (by assumption)))) (by omega) hl ?_ ?_
      · intro e
        subst e
        cases ho
        k_steps
        exact hret _ _ _ (fun b o e => Fr.keep (by assumption) b o (G1 b o List.not_mem_nil e)) rfl
      · intro sp h9 a9 C9 p9 l9 i9 e F9 N9
        subst e
        dsimp only at ho
        by_cases hs : sp.length = 8
        · rw [if_neg (not_not_intro hs)] at ho
          cases e2 : partOf tz sp 2 with
          | none => rw [e2] at ho; cases ho
          | some y2 =>
            rw [e2] at ho
            cases e4 : numOf y2 with
            | none => simp only [Option.bind, e4] at ho; cases ho
            | some n2 =>
              simp only [Option.bind, e4] at ho
              obtain ⟨i2, b20, b21, l20⟩ := numOf_is e4
              have l2 := part_len e2
              clear hl
              cases e3 : partOf tz sp 3 with
              | none =>
                rw [e3] at ho
                cases e1 : partOf tz sp 1 with
                | none =>
                  rw [e1] at ho
                  k_steps
                  all_goals (
                    refine hret _ _ _ (fun b o e => Fr.keep (by assumption) b o (G1 b o List.not_mem_nil e)) ?_
                    first
                      | (exfalso; omega)
                      | (rw [if_neg none_ne] at ho; cases ho; exact ⟨_, rfl⟩)
                      | (rw [if_pos (congrArg some (of_decide_eq_true (by assumption)))] at ho; cases ho; exact ⟨_, rfl⟩)
                      | (rw [if_neg (fun e => (of_decide_eq_false (by assumption)) (Option.some.inj e))] at ho; cases ho; exact ⟨_, rfl⟩)
                      | (rw [if_pos (congrArg some (by assumption))] at ho; cases ho; exact ⟨_, rfl⟩)
                      | (rw [if_neg (fun e => absurd (Option.some.inj e) (by assumption))] at ho; cases ho; exact ⟨_, rfl⟩)
                      | (exfalso; omega))
                | some y1 =>
                  rw [e1] at ho
                  k_steps
                  all_goals (
                    refine hret _ _ _ (fun b o e => Fr.keep (by assumption) b o (G1 b o List.not_mem_nil e)) ?_
                    first
                      | (exfalso; omega)
                      | (rw [if_neg none_ne] at ho; cases ho; exact ⟨_, rfl⟩)
                      | (rw [if_pos (congrArg some (of_decide_eq_true (by assumption)))] at ho; cases ho; exact ⟨_, rfl⟩)
                      | (rw [if_neg (fun e => (of_decide_eq_false (by assumption)) (Option.some.inj e))] at ho; cases ho; exact ⟨_, rfl⟩)
                      | (rw [if_pos (congrArg some (by assumption))] at ho; cases ho; exact ⟨_, rfl⟩)
                      | (rw [if_neg (fun e => absurd (Option.some.inj e) (by assumption))] at ho; cases ho; exact ⟨_, rfl⟩)
                      | (exfalso; omega))
              | some y3 =>
                rw [e3] at ho
                dsimp only at ho
                cases e5 : numOf y3 with
                | none => rw [e5] at ho; cases ho
                | some n3 =>
                  rw [e5] at ho
                  dsimp only at ho
                  obtain ⟨i3, b30, b31, l30⟩ := numOf_is e5
                  have l3 := part_len e3
                  cases e1 : partOf tz sp 1 with
                  | none =>
                    rw [e1] at ho
                    k_steps
                    all_goals (
                      refine hret _ _ _ (fun b o e => Fr.keep (by assumption) b o (G1 b o List.not_mem_nil e)) ?_
                      first
                        | (rw [if_neg none_ne] at ho; cases ho; exact ⟨_, rfl⟩)
                        | (rw [if_pos (congrArg some (of_decide_eq_true (by assumption)))] at ho; cases ho; exact ⟨_, rfl⟩)
                        | (rw [if_neg (fun e => (of_decide_eq_false (by assumption)) (Option.some.inj e))] at ho; cases ho; exact ⟨_, rfl⟩)
                        | (rw [if_pos (congrArg some (by assumption))] at ho; cases ho; exact ⟨_, rfl⟩)
                        | (rw [if_neg (fun e => absurd (Option.some.inj e) (by assumption))] at ho; cases ho; exact ⟨_, rfl⟩)
                        | (exfalso; omega))
                  | some y1 =>
                    rw [e1] at ho
                    k_steps
                    all_goals (
                      refine hret _ _ _ (fun b o e => Fr.keep (by assumption) b o (G1 b o List.not_mem_nil e)) ?_
                      first
                        | (rw [if_neg none_ne] at ho; cases ho; exact ⟨_, rfl⟩)
                        | (rw [if_pos (congrArg some (of_decide_eq_true (by assumption)))] at ho; cases ho; exact ⟨_, rfl⟩)
                        | (rw [if_neg (fun e => (of_decide_eq_false (by assumption)) (Option.some.inj e))] at ho; cases ho; exact ⟨_, rfl⟩)
                        | (rw [if_pos (congrArg some (by assumption))] at ho; cases ho; exact ⟨_, rfl⟩)
                        | (rw [if_neg (fun e => absurd (Option.some.inj e) (by assumption))] at ho; cases ho; exact ⟨_, rfl⟩)
                        | (exfalso; omega))
        · rw [if_pos hs] at ho; cases ho

end Mine
end

section
open PySem PySem.W PySem.Calls PyProof.Rows
namespace Mine
set_option maxRecDepth 100000
def offWant (d h f : Int) : Option Int := if d = 5 then none else some (([0, 2 * h + f, -2 * h - f, 2 * h + f, -2 * h].getD d.toNat 0) * 1800)
def offRight (d h f : Int) : Bool := decide (offOf (zoneOf d h f) = some (offWant d h f)) && decide ((zoneOf d h f).length ≤ 16)
theorem off_z0 : ∀ h : Fin 12, ∀ f : Fin 2, offRight 0 (h.val : Int) (f.val : Int) = true := by decide +kernel
theorem off_z1a : ∀ h : Fin 12, offRight 1 (h.val : Int) 0 = true := by decide +kernel
theorem off_z1b : ∀ h : Fin 12, offRight 1 (h.val : Int) 1 = true := by decide +kernel
theorem off_z2a : ∀ h : Fin 12, offRight 2 (h.val : Int) 0 = true := by decide +kernel
theorem off_z2b : ∀ h : Fin 12, offRight 2 (h.val : Int) 1 = true := by decide +kernel
theorem off_z3a : ∀ h : Fin 12, offRight 3 (h.val : Int) 0 = true := by decide +kernel
theorem off_z3b : ∀ h : Fin 12, offRight 3 (h.val : Int) 1 = true := by decide +kernel
theorem off_z4 : ∀ h : Fin 12, offRight 4 (h.val : Int) 0 = true := by decide +kernel
theorem off_z5 : ∀ h : Fin 4, offRight 5 (h.val : Int) 0 = true := by decide +kernel
theorem zone_z4 : ∀ h : Fin 12, ∀ f : Fin 2, zoneOf 4 (h.val : Int) (f.val : Int) = zoneOf 4 (h.val : Int) 0 := by decide +kernel
theorem zone_z5 : ∀ h : Fin 12, ∀ f : Fin 2, zoneOf 5 (h.val : Int) (f.val : Int) = zoneOf 5 (((h.val % 4 : Nat)) : Int) 0 := by decide +kernel
theorem off_right : ∀ d : Fin 6, ∀ h : Fin 12, ∀ f : Fin 2, offRight (d.val : Int) (h.val : Int) (f.val : Int) = true
  | 0, h, f => off_z0 h f
  | 1, h, 0 => off_z1a h
  | 1, h, 1 => off_z1b h
  | 2, h, 0 => off_z2a h
  | 2, h, 1 => off_z2b h
  | 3, h, 0 => off_z3a h
  | 3, h, 1 => off_z3b h
  | 4, h, f => by
    have q := off_z4 h
    have e := zone_z4 h f
    unfold offRight at q ⊢
    show (decide (offOf (zoneOf 4 (h.val : Int) (f.val : Int)) = some (offWant 4 (h.val : Int) (f.val : Int))) && decide ((zoneOf 4 (h.val : Int) (f.val : Int)).length ≤ 16)) = true
    rw [e]
    exact q
  | 5, h, f => by
    have q := off_z5 ⟨h.val % 4, Nat.mod_lt _ (by decide)⟩
    have e := zone_z5 h f
    unfold offRight at q ⊢
    show (decide (offOf (zoneOf 5 (h.val : Int) (f.val : Int)) = some (offWant 5 (h.val : Int) (f.val : Int))) && decide ((zoneOf 5 (h.val : Int) (f.val : Int)).length ≤ 16)) = true
    rw [e]
    exact q
theorem off_zone (d : Fin 6) (h : Fin 12) (f : Fin 2) : offOf (zoneOf (d.val : Int) (h.val : Int) (f.val : Int)) = some (if d.val = 5 then none else some (([0, 2 * (h.val : Int) + f.val, -2 * h.val - f.val, 2 * h.val + f.val, -2 * h.val].getD d.val 0) * 1800)) ∧ (zoneOf (d.val : Int) (h.val : Int) (f.val : Int)).length ≤ 16 := by
  have q := off_right d h f
  unfold offRight at q
  rw [Bool.and_eq_true, decide_eq_true_eq, decide_eq_true_eq] at q
  have e : offWant (d.val : Int) (h.val : Int) (f.val : Int) = (if d.val = 5 then none else some (([0, 2 * (h.val : Int) + f.val, -2 * h.val - f.val, 2 * h.val + f.val, -2 * h.val].getD d.val 0) * 1800)) := by
    unfold offWant
    by_cases hd : d.val = 5
    · rw [if_pos hd, if_pos (by rw [hd]; rfl)]
    · have hd' : ¬ (d.val : Int) = 5 := by omega
      rw [if_neg hd, if_neg hd', Int.toNat_natCast]
  rw [e] at q
  exact q

end Mine
end

section
open PySem PySem.W PySem.Calls PyProof.Rows
namespace Mine
local macro_rules | `(tactic| walk_at "m_pad0") => `(tactic| skip)
local macro_rules | `(tactic| walk_at "m_pad1") => `(tactic| skip)
local macro_rules | `(tactic| walk_at "m_pad2") => `(tactic| skip)
local macro_rules | `(tactic| walk_at "m_pad3") => `(tactic| skip)
local macro_rules | `(tactic| walk_at "m_pad4") => `(tactic| skip)
variable {w : World} {mean : ExcName → Option Value} {mg mb : Str → Option Value}
set_option maxRecDepth 100000
set_option maxHeartbeats 8000000
theorem fd2 (x : Int) : x.fdiv 2 = x / 2 := Int.fdiv_eq_ediv_of_nonneg x (by decide)
/-- a search by halves between lo and hi: below lo it is not up, from hi on it is -/
def Bis (n : Nat) (up : Nat → Prop) (lo hi : Int) : Prop := 0 ≤ lo ∧ lo ≤ hi ∧ hi ≤ n ∧ (∀ i : Nat, (i : Int) < lo → ¬ up i) ∧ (∀ i : Nat, hi ≤ i → i < n → up i)
def UpTo (n : Nat) (up : Nat → Prop) : Prop := ∀ i j : Nat, i ≤ j → j < n → up i → up j
theorem Bis.start (n : Nat) (up : Nat → Prop) : Bis n up 0 n := ⟨Int.le_refl _, Int.natCast_nonneg _, Int.le_refl _, fun i h => by omega, fun i h1 h2 => by omega⟩
theorem Bis.down {n : Nat} {up : Nat → Prop} {lo hi : Int} (hs : UpTo n up) (hb : Bis n up lo hi) (hlt : lo < hi) (h : up ((lo + hi).fdiv 2).toNat) : Bis n up lo ((lo + hi).fdiv 2) ∧ ((lo + hi).fdiv 2 - lo).toNat < (hi - lo).toNat := by
  obtain ⟨b0, b1, b2, b3, b4⟩ := hb
  rw [fd2] at h ⊢
  exact ⟨⟨b0, by omega, by omega, b3, fun i h1 h2 => hs _ i (by omega) h2 h⟩, by omega⟩
theorem Bis.upw {n : Nat} {up : Nat → Prop} {lo hi : Int} (hs : UpTo n up) (hb : Bis n up lo hi) (hlt : lo < hi) (h : ¬ up ((lo + hi).fdiv 2).toNat) : Bis n up ((lo + hi).fdiv 2 + 1) hi ∧ (hi - ((lo + hi).fdiv 2 + 1)).toNat < (hi - lo).toNat := by
  obtain ⟨b0, b1, b2, b3, b4⟩ := hb
  rw [fd2] at h ⊢
  exact ⟨⟨by omega, by omega, b2, fun i h1 h2 => h (hs i _ (by omega) (by omega) h2), b4⟩, by omega⟩
def upR (xs : List Int) (x : Int) (i : Nat) : Prop := x < xs.getD i 0
def upL (xs : List Int) (x : Int) (i : Nat) : Prop := ¬ xs.getD i 0 < x
def Sorted (xs : List Int) : Prop := ∀ i j : Nat, i ≤ j → j < xs.length → xs.getD i 0 ≤ xs.getD j 0
theorem Sorted.r {xs : List Int} (h : Sorted xs) (x : Int) : UpTo xs.length (upR xs x) := fun i j h1 h2 h3 => by have := h i j h1 h2; unfold upR at *; omega
theorem Sorted.l {xs : List Int} (h : Sorted xs) (x : Int) : UpTo xs.length (upL xs x) := fun i j h1 h2 h3 => by have := h i j h1 h2; unfold upL at *; omega
local macro_rules | `(tactic| walk_at "subscriptTail Name Name ref int") => `(tactic| (k_here; (with_reducible show wpAny _ _ (subscriptTail _ _ (Value.ref _) (Value.int _ _)) _ _ _); (with_unfolding_all refine' item_list_intsR ?k1 ?k2 ?k3 ?k4 ?k5 ?_ ?k6; (case k1 => is_list); (case k2 => assumption); (case k3 => rw [fd2]; omega); (case k4 => rw [fd2]; omega); (case k5 => rw [fd2]; omega); (case k6 => with_unfolding_all rfl); k_whole); intro t9))
theorem bisR_call (a : Addr) (x : Int) (t1 : Tok) (vs : List Value) (xs : List Int) (hv : IntsAre vs xs) (hz : xs.length ≤ 1000) (hs : Sorted xs) :
    Calls w mean mg mb 62 [.ref a, .int x t1] [] (fun h => h.IsList a vs.toArray) (fun _ v _ => ∃ p t, v = .int p t ∧ Bis xs.length (upR xs x) p p) := by
  intro dp un gd cn cs a' ccd cl outer A₀ base h₀ L m s Q E B F X T hk hdp hun hpre hret
  have N : News h₀ L s.heap [] := News.nil
  refine wpAny_call ?_
  k_dflt walk_at "m_enterD"
  intro g L1 h1 FG F1 N1 B1 X1 T1 G1
  have hl : g.IsList a vs.toArray := hpre.at fun o e => G1 a o List.not_mem_nil e
  try dsimp only
  try k_lift B1
  try k_fold
  walk_at "m_toWhile"
  rename_i h2 F2 N2
  refine While_inv2 (fun n m nw => ∃ lo hi tl th, nw = [] ∧ m (Str.ofString "a") = some (.ref a) ∧ m (Str.ofString "x") = some (.int x t1) ∧ m (Str.ofString "key") = some .none ∧ m (Str.ofString "lo") = some (.int lo tl) ∧ m (Str.ofString "hi") = some (.int hi th) ∧ Bis xs.length (upR xs x) lo hi ∧ n = (hi - lo).toNat) (by assumption) (by assumption) (n₀ := xs.length) ?_ ?_
  · refine' ⟨0, xs.length, ?tl, ?th, rfl, ?g1, ?g2, ?g3, ?g4, ?g5, ?g6, ?g7⟩
    case g1 => rfl
    case g2 => rfl
    case g3 => rfl
    case g4 => rfl
    case g5 => rfl
    case g6 => exact Bis.start _ _
    case g7 => omega
  · rintro n m1 nw h3 tk3 F3 N3 ⟨lo, hi, tl, th, rfl, ma, mx, mk, ml, mh, hb, rfl⟩
    obtain ⟨b0, b1, b2, b3, b4⟩ := id hb
    k_steps
    · obtain ⟨c1, c2⟩ := Bis.down (hs.r x) hb (by assumption) (by assumption)
      rename Fr _ _ _ _ => Fz
      rename News _ _ _ _ => Nz
      exact ⟨_, _, _, _, _, rfl, Fz, Nz, c2, _, _, _, _, rfl, ma, mx, mk, ml, rfl, c1, rfl⟩
    · obtain ⟨c1, c2⟩ := Bis.upw (hs.r x) hb (by assumption) (by assumption)
      rename Fr _ _ _ _ => Fz
      rename News _ _ _ _ => Nz
      exact ⟨_, _, _, _, _, rfl, Fz, Nz, c2, _, _, _, _, rfl, ma, mx, mk, rfl, mh, c1, rfl⟩
    · have e : lo = hi := by omega
      subst e
      exact hret _ _ _ (fun b o e => F3.keep b o (G1 b o List.not_mem_nil e)) ⟨_, _, rfl, hb⟩
theorem bisL_call (a : Addr) (x : Int) (t1 t2 : Tok) (vs : List Value) (xs : List Int) (hv : IntsAre vs xs) (hz : xs.length ≤ 1000) (hs : Sorted xs) :
    Calls w mean mg mb 80 [.ref a, .int x t1, .int 0 t2, .none] [] (fun h => h.IsList a vs.toArray) (fun _ v _ => ∃ p t, v = .int p t ∧ Bis xs.length (upL xs x) p p) := by
  intro dp un gd cn cs a' ccd cl outer A₀ base h₀ L m s Q E B F X T hk hdp hun hpre hret
  have N : News h₀ L s.heap [] := News.nil
  refine wpAny_call ?_
  k_dflt walk_at "m_enterD"
  intro g L1 h1 FG F1 N1 B1 X1 T1 G1
  have hl : g.IsList a vs.toArray := hpre.at fun o e => G1 a o List.not_mem_nil e
  try dsimp only
  try k_lift B1
  try k_fold
  walk_at "m_toWhile"
  rename_i h2 F2 N2
  refine While_inv2 (fun n m nw => ∃ lo hi tl th, nw = [] ∧ m (Str.ofString "a") = some (.ref a) ∧ m (Str.ofString "x") = some (.int x t1) ∧ m (Str.ofString "key") = some .none ∧ m (Str.ofString "lo") = some (.int lo tl) ∧ m (Str.ofString "hi") = some (.int hi th) ∧ Bis xs.length (upL xs x) lo hi ∧ n = (hi - lo).toNat) (by assumption) (by assumption) (n₀ := xs.length) ?_ ?_
  · refine' ⟨0, xs.length, ?tl, ?th, rfl, ?g1, ?g2, ?g3, ?g4, ?g5, ?g6, ?g7⟩
    case g1 => rfl
    case g2 => rfl
    case g3 => rfl
    case g4 => rfl
    case g5 => rfl
    case g6 => exact Bis.start _ _
    case g7 => omega
  · rintro n m1 nw h3 tk3 F3 N3 ⟨lo, hi, tl, th, rfl, ma, mx, mk, ml, mh, hb, rfl⟩
    obtain ⟨b0, b1, b2, b3, b4⟩ := id hb
    k_steps
    · obtain ⟨c1, c2⟩ := Bis.upw (hs.l x) hb (by assumption) (not_not_intro (by assumption))
      rename Fr _ _ _ _ => Fz
      rename News _ _ _ _ => Nz
      exact ⟨_, _, _, _, _, rfl, Fz, Nz, c2, _, _, _, _, rfl, ma, mx, mk, rfl, mh, c1, rfl⟩
    · obtain ⟨c1, c2⟩ := Bis.down (hs.l x) hb (by assumption) (by assumption)
      rename Fr _ _ _ _ => Fz
      rename News _ _ _ _ => Nz
      exact ⟨_, _, _, _, _, rfl, Fz, Nz, c2, _, _, _, _, rfl, ma, mx, mk, ml, rfl, c1, rfl⟩
    · have e : lo = hi := by omega
      subst e
      exact hret _ _ _ (fun b o e => F3.keep b o (G1 b o List.not_mem_nil e)) ⟨_, _, rfl, hb⟩

end Mine
end

section
open PySem PySem.W PySem.Calls PyProof.Rows
namespace Mine
local macro_rules | `(tactic| walk_at "m_pad0") => `(tactic| skip)
local macro_rules | `(tactic| walk_at "m_pad1") => `(tactic| skip)
local macro_rules | `(tactic| walk_at "m_pad2") => `(tactic| skip)
local macro_rules | `(tactic| walk_at "m_pad3") => `(tactic| skip)
local macro_rules | `(tactic| walk_at "m_pad4") => `(tactic| skip)
local macro_rules | `(tactic| walk_at "m_pad5") => `(tactic| skip)
local macro_rules | `(tactic| walk_at "m_pad6") => `(tactic| skip)
variable {w : World} {mean : ExcName → Option Value} {mg mb : Str → Option Value}
set_option maxRecDepth 100000
set_option maxHeartbeats 8000000
theorem ints_cat : ∀ {vs ws : List Value} {xs ys : List Int}, IntsAre vs xs → IntsAre ws ys → IntsAre (vs ++ ws) (xs ++ ys)
  | _, _, _, _, .nil, k => k
  | _, _, _, _, .cons _ _ h, k => .cons _ _ (ints_cat h k)
theorem ints_take : ∀ {vs : List Value} {xs : List Int}, IntsAre vs xs → ∀ n, IntsAre (vs.take n) (xs.take n)
  | _, _, .nil, n => by rw [List.take_nil, List.take_nil]; exact .nil
  | _, _, .cons _ _ h, 0 => .nil
  | _, _, .cons _ _ h, n + 1 => .cons _ _ (ints_take h n)
theorem ints_drop : ∀ {vs : List Value} {xs : List Int}, IntsAre vs xs → ∀ n, IntsAre (vs.drop n) (xs.drop n)
  | _, _, .nil, n => by rw [List.drop_nil, List.drop_nil]; exact .nil
  | _, _, .cons a b h, 0 => .cons a b h
  | _, _, .cons _ _ h, n + 1 => ints_drop h n
theorem ints_ins {vs : List Value} {xs : List Int} (h : IntsAre vs xs) (p : Nat) (x : Int) (t : Tok) : IntsAre (vs.take p ++ Value.int x t :: vs.drop p) (xs.take p ++ x :: xs.drop p) := ints_cat (ints_take h p) (.cons _ _ (ints_drop h p))
/-- a call that changes the list at `l` alone -/
noncomputable abbrev CallsM (w : World) (mean : ExcName → Option Value) (mg mb : Str → Option Value) (f : Addr) (vs : List Value) (kw : List (Str × Value)) (l : Addr) (items : Array Value) (pre : Heap → Prop) (R : Array Value → Prop) : Prop :=
  ∀ (dp un : Nat) (gd : Option (List Code)) (cn : Str) (cs : Scope) (a : Addr) (ccd : Value) (cl : List (Str × Addr)) (outer : List Env) (A₀ : Around) (base h₀ : Heap) (L : Addr) (m : Str → Option Value) (s : Shared) (Q E : Value → Shared → Prop) (e : Nat),
    Below A₀ base outer h₀ → Fr h₀ L s.heap m → (hd.heap_39 w.params).In h₀ → Top topProg LO mean mg mb h₀ → cs.kind = .function →
    dp + 60 < recursionLimit → un + 300 < cLine → News h₀ L s.heap [(l, W.listOf items e)] → pre s.heap →
    (∀ items' e' h' tk', (∀ b o, b ≠ l → s.heap.get? b = some o → h'.get? b = some o) → h'.get? l = some (W.listOf items' e') → R items' → Q .none { s with heap := h', toks := tk' }) →
      wpAny (MM w) (ktrTop dp un gd cn cs L a ccd cl outer) (call (.ref f) vs kw) Q E s
theorem insL_call (l : Addr) (x : Int) (t1 : Tok) (vs : List Value) (xs : List Int) (hv : IntsAre vs xs) (hz : xs.length ≤ 1000) (hs : Sorted xs) :
    CallsM w mean mg mb 71 [.ref l, .int x t1] [] l vs.toArray (fun _ => True) (fun items' => ∃ p : Nat, p ≤ xs.length ∧ Bis xs.length (upL xs x) p p ∧ IntsAre items'.toList (xs.take p ++ x :: xs.drop p)) := by
  intro dp un gd cn cs a' ccd cl outer A₀ base h₀ L m s Q E e9 B F X T hk hdp hun N _ hret
  have hh0 : h₀.get? l = none := (N _ (List.Mem.head _)).2.2
  refine wpAny_call ?_
  k_dflt walk_at "m_enterD"
  intro g L1 h1 FG F1 N1 B1 X1 T1 G1
  try dsimp only
  try k_lift B1
  try k_fold
  walk_at "m_toCall"
  refine bisL_call (mean := mean) (mg := mg) (mb := mb) l x _ _ vs xs hv hz hs _ _ _ _ _ _ _ _ _ _ _ _ _ _ _ _ _ B1 F1 X1 T1 rfl ?_ ?_ ?_ ?_
  · show dp + 1 + 20 < _; omega
  · ktr_units
  · exact ⟨_, (N1 _ (List.Mem.head _)).1, rfl, _, rfl⟩
  · rintro v h3 tk3 he ⟨p, tp, rfl, hb⟩
    have F3 := F1.keptAll he
    have N3 := fun q hq => N1.grown he q hq
    clear F1 N1
    dsimp only at F3 N3
    k_steps
    obtain ⟨b0, b1, b2, b3, b4⟩ := id hb
    rename Fr _ _ _ _ => F4
    rename News _ _ _ _ => N4
    refine kl_insert F4 N4 (by unfold Builtin.List.listFitsIndex; simp; omega) rfl (.head fun p hp => nomatch hp) ?_ fun h5 F5 N5 => ?_
    · show vs.length ≤ _
      rw [hv.length]
      exact Nat.le_trans hz (by decide)
    · dsimp only at F5 N5
      k_steps
      refine hret _ (e9 + 1) h5 _ (fun b o hb e => F5.keep b o (G1 b o (by simpa using hb) e)) (N5 _ (.head _)).1 ⟨p.toNat, by omega, by rw [Int.toNat_of_nonneg b0]; exact hb, ?_⟩
      have e1 : kl_ins vs p (Value.int x t1) = vs.take p.toNat ++ Value.int x t1 :: vs.drop p.toNat := by
        unfold kl_ins
        rw [if_neg (by omega), Nat.min_eq_left (by rw [hv.length]; omega)]
      rw [e1]
      exact ints_ins hv p.toNat x t1

end Mine
end

section
open PySem PySem.W PySem.Calls PyProof.Rows
namespace Mine
local macro_rules | `(tactic| walk_at "m_pad0") => `(tactic| skip)
local macro_rules | `(tactic| walk_at "m_pad1") => `(tactic| skip)
local macro_rules | `(tactic| walk_at "m_pad2") => `(tactic| skip)
local macro_rules | `(tactic| walk_at "m_pad3") => `(tactic| skip)
local macro_rules | `(tactic| walk_at "m_pad4") => `(tactic| skip)
local macro_rules | `(tactic| walk_at "m_pad5") => `(tactic| skip)
local macro_rules | `(tactic| walk_at "m_pad6") => `(tactic| skip)
local macro_rules | `(tactic| walk_at "m_pad7") => `(tactic| skip)
variable {w : World} {mean : ExcName → Option Value} {mg mb : Str → Option Value}
set_option maxRecDepth 100000
set_option maxHeartbeats 8000000
section
variable {prog : Program} {A A₀ : Around} {s : Shared} {K : Frag} {L : Addr} {h₀ base : Heap} {m : Str → Option Value} {news : List (Addr × Obj)} {p : Program} {loose : List Str}
theorem enterL {env : Env} {outer : List Env} {R : Result → Shared → Prop} {name qual : Str} {params : Arguments} {body : Expr} {scope : Scope} {cl : List (Str × Addr)} {pm ctv : Value} {c' : Addr} {f : Addr} {args : Args} {binds : List (Str × Value)}
    (B : Below A₀ base outer h₀) (F : Fr h₀ L s.heap m) (X₀ : K.In h₀) (N : News h₀ L s.heap news) (T : Top p loose mean mg mb h₀) (hA : A.frames = some (env :: outer)) (hf : env.frame = some L) (hke : env.scope.kind = .function)
    (ho : s.heap.get? f = some (kla_obj name qual params body scope cl pm c' ctv)) (hcd : s.heap.CodeRec (.ref c') qual) (hroom : A.depth < recursionLimit)
    (hbind : bindArgs (kla_fn name qual params body scope cl pm (.ref c') ctv) args = pure binds) (hloc : ∀ y ∈ binds, scope.names.lookup y.1 = some .local)
    (h : ∀ g L' h₁, Fr h₀ L g m → Fr g L' h₁ (fun y => binds.reverse.lookup y) → News g L' h₁ news → Below A base (env :: outer) g → K.In g → Top p loose mean mg mb g →
      (∀ b o, b ∉ news.map (·.1) → s.heap.get? b = some o → g.get? b = some o) →
      wpAny (model prog w) (A.deeper (envX qual scope L' f (.ref c') cl)) (eval body (envX qual scope L' f (.ref c') cl))
        (fun v s' => LeaveK h₀ L m g R v s')
        (fun e s' => wpAny (model prog w) (A.deeper (envX qual scope L' f (.ref c') cl)) (leaving (envX qual scope L' f (.ref c') cl) e) (fun _ s'' => R (.error e) s'') (fun e' s'' => R (.error e') s'') s')
        { s with heap := h₁, toks := s.toks + binds.length })
    (hco : scope.isCoroutine = false) (hgen : scope.isGenerator = false) (hk : scope.kind = .function)
    (hcell : ∀ x ∈ scope.names, x.2 ≠ .cell) : codeAny (model prog w) A (.call (.ref f) args) R s := by
  obtain ⟨FG, BG, st, lv⟩ := groundX (R := R) B F N hA hf hke
  refine kla_callFunE hroom ho rfl hco hgen rfl hcd ?_
  rw [hbind]
  refine wpAny_pure (wpAny_newFunctionEnv hcell hloc (fun h₁ hns hsb => ⟨((T.nolimit).keeps F.keep).fresh _ hsb, ?_⟩) hk)
  show codeAny _ _ (.expr body (envX qual scope s.heap.objs.size f (.ref c') cl)) _ _
  have hk₁ : ∀ b o, s.heap.get? b = some o → h₁.get? b = some o := fun b o e => hsb.extBut b o (Nat.ne_of_lt (Heap.lt_size e)) (Heap.get?_push_of_some _ e)
  exact kla_codeExpr (wpAny_mono (h _ s.heap.objs.size h₁ FG ⟨hns, fun b o e => hk₁ b o (of_hideAll _ e), Nat.le_of_eq (hideAll_size _ _)⟩
    (fun p hp => ⟨hk₁ _ _ (N p hp).1, Nat.ne_of_lt (Heap.lt_size (N p hp).1), hideAll_none _ (List.mem_map_of_mem hp)⟩) BG (X₀.keeps st) (T.keeps st) (fun b o hb e => hideAll_get _ e hb)) (fun v s' hl => lv _ _ hl) fun _ _ y => y)
end
abbrev lamParams (p : Pos) : Arguments := { posonlyargs := [], args := [{ arg := Str.ofString "one", annotation := none, pos := p }], vararg := none, kwonlyargs := [], kw_defaults := [], kwarg := none, defaults := [] }
abbrev lamBody (p1 p2 p3 : Pos) : Expr := .Subscript (.Name (Str.ofString "one") p1) (.Constant (.int 1) 0 p2) p3
abbrev lamScope : Scope := { kind := .function, names := [(Str.ofString "one", .local)], isGenerator := false, isCoroutine := false, more := [] }
/-- a lambda one: one[1] stands at f -/
def LamAt (h : Heap) (f : Addr) : Prop := ∃ p1 p2 p3 p4 nm q pm c' ctv, h.get? f = some (kla_obj nm q (lamParams p4) (lamBody p1 p2 p3) lamScope [] pm c' ctv) ∧ h.CodeRec (.ref c') q
theorem LamAt.keeps {h h' : Heap} {f : Addr} (x : LamAt h f) (k : ∀ b o, h.get? b = some o → h'.get? b = some o) : LamAt h' f := by
  obtain ⟨p1, p2, p3, p4, nm, q, pm, c', ctv, h1, h2⟩ := x
  exact ⟨p1, p2, p3, p4, nm, q, pm, c', ctv, k _ _ h1, h2.keeps k⟩
theorem LamAt.fnAt {h h' : Heap} {f : Addr} (x : LamAt h f) (k : ∀ b o, h.get? b = some o → h'.get? b = some o) : FnAt f h' := by
  obtain ⟨p1, p2, p3, p4, nm, q, pm, c', ctv, h1, h2⟩ := x
  exact ⟨_, _, _, _, k _ _ h1⟩
theorem lam_call (f T : Addr) (u o : Value) (d : Int) (t : Tok) :
    Calls w mean mg mb f [.ref T] [] (fun h => LamAt h f ∧ IsTup h T #[u, .int d t, o]) (fun _ v _ => v = .int d t) := by
  intro dp un gd cn cs a' ccd cl outer A₀ base h₀ L m s Q E B F X T9 hk hdp hun hpre hret
  obtain ⟨⟨p1, p2, p3, p4, nm, q, pm, c', ctv, l1, l2⟩, hT⟩ := hpre
  have N : News h₀ L s.heap [] := News.nil
  refine wpAny_call ?_
  refine enterL (binds := [(Str.ofString "one", .ref T)]) B F X N T9 rfl rfl hk l1 l2 (by ktr_room) rfl (locs rfl) ?_ rfl rfl rfl (by decide)
  intro g L1 h1 FG F1 N1 B1 X1 T1 G1
  have hT1 : IsTup g T #[u, .int d t, o] := IsTup.keeps hT (fun b o e => G1 b o List.not_mem_nil e)
  try dsimp only
  try k_lift B1
  try k_fold
  k_steps
  exact hret _ _ _ (fun b o e => Fr.keep (by assumption) b o (G1 b o List.not_mem_nil e)) rfl
/-- the rows of a list: each a tuple whose second is the int -/
def RowAt (h : Heap) (items : Array Value) (ds : List Int) : Prop := items.size = ds.length ∧ ∀ i : Nat, i < ds.length → ∃ T u t o, items[i]? = some (.ref T) ∧ IsTup h T #[u, .int (ds.getD i 0) t, o]
theorem RowAt.keeps {h h' : Heap} {items : Array Value} {ds : List Int} (x : RowAt h items ds) (k : ∀ b o, (∃ ps n, o = ({ cls := .type "tuple", dict := none, data := .seq ps n, slots := #[] } : Obj)) ∨ True → h.get? b = some o → h'.get? b = some o) : RowAt h' items ds :=
  ⟨x.1, fun i hi => by obtain ⟨T, u, t, o, h1, h2⟩ := x.2 i hi; exact ⟨T, u, t, o, h1, IsTup.keeps h2 (fun b o e => k b o (.inr trivial) e)⟩⟩
noncomputable abbrev Calls2 (w : World) (mean : ExcName → Option Value) (mg mb : Str → Option Value) (f : Addr) (vs : List Value) (kw : List (Str × Value)) (pre : Heap → Prop) (R : Heap → Value → Heap → Prop) : Prop :=
  ∀ (dp un : Nat) (gd : Option (List Code)) (cn : Str) (cs : Scope) (a : Addr) (ccd : Value) (cl : List (Str × Addr)) (outer : List Env) (A₀ : Around) (base h₀ : Heap) (L : Addr) (m : Str → Option Value) (s : Shared) (Q E : Value → Shared → Prop),
    Below A₀ base outer h₀ → Fr h₀ L s.heap m → (hd.heap_39 w.params).In h₀ → Top topProg LO mean mg mb h₀ → cs.kind = .function →
    dp + 40 < recursionLimit → un + 200 < cLine → pre s.heap →
    (∀ v h' tk', Ext s.heap h' → R s.heap v h' → Q v { s with heap := h', toks := tk' }) →
      wpAny (MM w) (ktrTop dp un gd cn cs L a ccd cl outer) (call (.ref f) vs kw) Q E s
theorem bisK_call (a lam : Addr) (x : Int) (t1 t2 : Tok) (items : Array Value) (ds : List Int) (hz : ds.length ≤ 1000) (hs : Sorted ds) :
    Calls2 w mean mg mb 62 [.ref a, .int x t1, .int 0 t2, .none] [(Str.ofString "key", .ref lam)] (fun h => h.IsList a items ∧ LamAt h lam ∧ RowAt h items ds) (fun _ v _ => ∃ p t, v = .int p t ∧ Bis ds.length (upR ds x) p p) := by
  intro dp un gd cn cs a' ccd cl outer A₀ base h₀ L m s Q E B F X T hk hdp hun hpre hret
  have N : News h₀ L s.heap [] := News.nil
  refine wpAny_call ?_
  k_dflt walk_at "m_enterD"
  intro g L1 h1 FG F1 N1 B1 X1 T1 G1
  have G2 : ∀ b o, s.heap.get? b = some o → g.get? b = some o := fun b o e => G1 b o List.not_mem_nil e
  have hl : g.IsList a items := hpre.1.at fun o e => G2 a o e
  have hlam : LamAt g lam := hpre.2.1.keeps G2
  have hrow : RowAt g items ds := hpre.2.2.keeps fun b o _ e => G2 b o e
  have hsz := hrow.1
  try dsimp only
  try k_lift B1
  try k_fold
  walk_at "m_toWhile"
  rename_i h2 F2 N2
  have hup : UpTo items.size (upR ds x) := by rw [hsz]; exact hs.r x
  refine While_inv2 (fun n m nw => ∃ lo hi tl th, nw = [] ∧ m (Str.ofString "a") = some (.ref a) ∧ m (Str.ofString "x") = some (.int x t1) ∧ m (Str.ofString "key") = some (.ref lam) ∧ m (Str.ofString "lo") = some (.int lo tl) ∧ m (Str.ofString "hi") = some (.int hi th) ∧ Bis items.size (upR ds x) lo hi ∧ n = (hi - lo).toNat) (by assumption) (by assumption) (n₀ := items.size) ?_ ?_
  · refine' ⟨0, items.size, ?tl, ?th, rfl, ?g1, ?g2, ?g3, ?g4, ?g5, ?g6, ?g7⟩
    case g1 => rfl
    case g2 => rfl
    case g3 => rfl
    case g4 => rfl
    case g5 => rfl
    case g6 => exact Bis.start _ _
    case g7 => omega
  · rintro n m1 nw h3 tk3 F3 N3 ⟨lo, hi, tl, th, rfl, ma, mx, mk, ml, mh, hb, rfl⟩
    obtain ⟨b0, b1, b2, b3, b4⟩ := id hb
    k_steps
    · have hlt : lo < hi := by assumption
      have hmid : ((lo + hi).fdiv 2).toNat < ds.length := by rw [fd2]; omega
      refine callWith_F (q := lam) (hlam.fnAt (Fr.keep (by assumption))) ?_
      k_steps
      obtain ⟨T9, u9, t9, o9, r1, r2⟩ := hrow.2 _ hmid
      rename Fr _ _ _ _ => F4
      rename News _ _ _ _ => N4
      refine item_listR (Fr.lst F4 hl) (by rw [fd2]; omega) (by rw [fd2]; omega) r1 ?_ (by with_unfolding_all rfl)
      k_steps
      · exact hlam.fnAt F4.keep
      · refine lam_call (mean := mean) (mg := mg) (mb := mb) lam T9 u9 o9 (ds.getD ((lo + hi).fdiv 2).toNat 0) t9 _ _ _ _ _ _ _ _ _ _ _ _ _ _ _ _ _ B1 F4 X1 T1 rfl ?_ ?_ ?_ ?_
        · show dp + 1 + 20 < _; omega
        · ktr_units
        · exact ⟨hlam.keeps F4.keep, IsTup.keeps r2 F4.keep⟩
        · rintro v h9 tk9 he rfl
          have F5 := F4.keptAll he
          have N5 : News g L1 h9 [] := News.nil
          clear F4 N4
          dsimp only at F5
          k_steps
          · obtain ⟨c1, c2⟩ := Bis.down hup hb hlt (by assumption)
            rename Fr _ _ _ _ => Fz
            rename News _ _ _ _ => Nz
            exact ⟨_, _, _, _, _, rfl, Fz, Nz, c2, _, _, _, _, rfl, ma, mx, mk, ml, rfl, c1, rfl⟩
          · obtain ⟨c1, c2⟩ := Bis.upw hup hb hlt (by assumption)
            rename Fr _ _ _ _ => Fz
            rename News _ _ _ _ => Nz
            exact ⟨_, _, _, _, _, rfl, Fz, Nz, c2, _, _, _, _, rfl, ma, mx, mk, rfl, mh, c1, rfl⟩
    · have e : lo = hi := by omega
      subst e
      rw [hsz] at hb
      exact hret _ _ _ (fun b o e => F3.keep b o (G2 b o e)) ⟨_, _, rfl, hb⟩

end Mine
end

section
open PySem PySem.W PySem.Calls PyProof.Rows
namespace Mine
local macro_rules | `(tactic| walk_at "m_pad0") => `(tactic| skip)
local macro_rules | `(tactic| walk_at "m_pad1") => `(tactic| skip)
local macro_rules | `(tactic| walk_at "m_pad2") => `(tactic| skip)
local macro_rules | `(tactic| walk_at "m_pad3") => `(tactic| skip)
local macro_rules | `(tactic| walk_at "m_pad4") => `(tactic| skip)
local macro_rules | `(tactic| walk_at "m_pad5") => `(tactic| skip)
local macro_rules | `(tactic| walk_at "m_pad6") => `(tactic| skip)
local macro_rules | `(tactic| walk_at "m_pad7") => `(tactic| skip)
local macro_rules | `(tactic| walk_at "m_pad8") => `(tactic| skip)
variable {w : World} {mean : ExcName → Option Value} {mg mb : Str → Option Value}
set_option maxRecDepth 100000
set_option maxHeartbeats 8000000
theorem LamAt.keepsL {h h' : Heap} {f l : Addr} {items : Array Value} {e : Nat} (x : LamAt h f) (hl : h.get? l = some (W.listOf items e)) (k : ∀ b o, b ≠ l → h.get? b = some o → h'.get? b = some o) : LamAt h' f := by
  obtain ⟨p1, p2, p3, p4, nm, q, pm, c', ctv, h1, c, o, vs, t, e1, h2, hd, hv⟩ := x
  refine ⟨p1, p2, p3, p4, nm, q, pm, c', ctv, k _ _ (fun r => ?_) h1, c, o, vs, t, e1, k _ _ (fun r => ?_) h2, hd, hv⟩
  · subst r; rw [hl] at h1; have h9 := congrArg Obj.data (Option.some.inj h1); cases h9
  · subst r; rw [hl] at h2; rw [← Option.some.inj h2] at hd; cases hd
theorem tupKeepsL {h h' : Heap} {T l : Addr} {items vs : Array Value} {e : Nat} (x : IsTup h T vs) (hl : h.get? l = some (W.listOf items e)) (k : ∀ b o, b ≠ l → h.get? b = some o → h'.get? b = some o) : IsTup h' T vs := by
  obtain ⟨o, h1, hc, n, hd⟩ := x
  refine ⟨o, k _ _ (fun r => ?_) h1, hc, n, hd⟩
  subst r; rw [hl] at h1; rw [← Option.some.inj h1] at hc; injection hc with hc; exact absurd hc (by decide)
theorem RowAt.keepsL {h h' : Heap} {l : Addr} {items rows : Array Value} {ds : List Int} {e : Nat} (x : RowAt h rows ds) (hl : h.get? l = some (W.listOf items e)) (k : ∀ b o, b ≠ l → h.get? b = some o → h'.get? b = some o) : RowAt h' rows ds :=
  ⟨x.1, fun i hi => by obtain ⟨T, u, t, o, h1, h2⟩ := x.2 i hi; exact ⟨T, u, t, o, h1, tupKeepsL h2 hl k⟩⟩
theorem insR_call (l lam T : Addr) (u o : Value) (d : Int) (t : Tok) (items : Array Value) (ds : List Int) (hz : ds.length ≤ 900) (hs : Sorted ds) :
    CallsM w mean mg mb 53 [.ref l, .ref T] [(Str.ofString "key", .ref lam)] l items (fun h => LamAt h lam ∧ IsTup h T #[u, .int d t, o] ∧ RowAt h items ds) (fun items' => ∃ p : Nat, p ≤ ds.length ∧ Bis ds.length (upR ds d) p p ∧ items'.toList = items.toList.take p ++ .ref T :: items.toList.drop p) := by
  intro dp un gd cn cs a' ccd cl outer A₀ base h₀ L m s Q E e9 B F X T9 hk hdp hun N hpre hret
  obtain ⟨q1, q2, q3⟩ := hpre
  have hl := (N _ (.head _)).1
  refine wpAny_call ?_
  k_dflt walk_at "m_enterD"
  intro g L1 h1 FG F1 N1 B1 X1 T1 G1
  have G2 : ∀ b o, b ≠ l → s.heap.get? b = some o → g.get? b = some o := fun b o hb e => G1 b o (by simpa using hb) e
  replace q1 := q1.keepsL hl G2
  replace q2 := tupKeepsL q2 hl G2
  replace q3 := q3.keepsL hl G2
  have hsz := q3.1
  try dsimp only
  try k_lift B1
  try k_fold
  k_steps
  refine callWith_F (q := lam) (q1.fnAt F1.keep) ?_
  k_steps
  · exact q1.fnAt F1.keep
  · refine lam_call (mean := mean) (mg := mg) (mb := mb) lam T u o d t _ _ _ _ _ _ _ _ _ _ _ _ _ _ _ _ _ B1 F1 X1 T1 rfl ?_ ?_ ?_ ?_
    · show dp + 1 + 20 < _; omega
    · ktr_units
    · exact ⟨q1.keeps F1.keep, IsTup.keeps q2 F1.keep⟩
    · rintro v h9 tk9 he rfl
      have F5 := F1.keptAll he
      have N5 := fun q hq => N1.grown he q hq
      clear F1 N1
      dsimp only at F5 N5
      walk_at "m_toCall"
      refine bisK_call (mean := mean) (mg := mg) (mb := mb) l lam d t _ items ds (by omega) hs _ _ _ _ _ _ _ _ _ _ _ _ _ _ _ _ _ B1 F5 X1 T1 rfl ?_ ?_ ?_ ?_
      · show dp + 1 + 40 < _; omega
      · ktr_units
      · exact ⟨⟨_, (N5 _ (.head _)).1, rfl, _, rfl⟩, q1.keeps F5.keep, q3.keeps fun b o _ e => F5.keep b o e⟩
      · rintro v h3 tk3 he3 ⟨p, tp, rfl, hb⟩
        have F3 := F5.keptAll he3
        have N3 : News g L1 h3 [(l, W.listOf items e9)] := fun q hq => News.grown N5 he3 q hq
        clear F5 N5
        try dsimp only at F3
        k_steps
        obtain ⟨b0, b1, b2, b3, b4⟩ := id hb
        rename Fr _ _ _ _ => F4
        rename News _ _ _ _ => N4
        refine kl_insert F4 N4 (by unfold Builtin.List.listFitsIndex; simp; omega) rfl (.head fun p hp => nomatch hp) ?_ fun h5 F5 N5 => ?_
        · rw [Array.length_toList, hsz]
          exact Nat.le_trans hz (by decide)
        · try dsimp only at N5
          k_steps
          refine hret _ (e9 + 1) h5 _ (fun b o hb e => F5.keep b o (G2 b o hb e)) (N5 _ (.head _)).1 ⟨p.toNat, by omega, by rw [Int.toNat_of_nonneg b0]; exact hb, ?_⟩
          show kl_ins items.toList p (.ref T) = _
          unfold kl_ins
          rw [if_neg (by omega), Nat.min_eq_left (by rw [Array.length_toList, hsz]; omega)]

end Mine
end

section
/-! the plain law: what the least lengths are -/
namespace Mine
/-- the mails that the choice c takes -/
def chosenOf {α : Type} : List α → Nat → List α
  | [], _ => []
  | w :: ws, c => if c % 2 = 1 then w :: chosenOf ws (c / 2) else chosenOf ws (c / 2)
def lenSum (ch : List (Int × Nat)) : Nat := (ch.map (·.2)).sum
/-- by Jackson's rule all can be out in time -/
def inTime (ch : List (Int × Nat)) : Bool := ch.all fun w => decide (¬ (1800 * ((lenSum (ch.filter fun o => o.1 ≤ w.1) : Nat) : Int) > w.1))
def foundStep (fl : List (List Nat)) (ch : List (Int × Nat)) : List (List Nat) := if inTime ch then fl.modify ch.length (· ++ [lenSum ch]) else fl
def foundOf (ws : List (Int × Nat)) (n : Nat) : List (List Nat) := (List.range n).foldl (fun fl c => foundStep fl (chosenOf ws c)) (List.replicate (ws.length + 1) [])
def leastOf (ws : List (Int × Nat)) : List Nat := (foundOf ws (2 ^ ws.length)).filterMap fun l => l.min?
theorem chosen_sub : ∀ (ws : List (Int × Nat)) (c : Nat), (chosenOf ws c).Sublist ws
  | [], _ => List.Sublist.slnil
  | w :: ws, c => by
    unfold chosenOf
    split
    · exact (chosen_sub ws _).cons_cons w
    · exact (chosen_sub ws _).cons w
theorem chosen_all {ch ws : List (Int × Nat)} (h : ch.Sublist ws) : ∃ c, c < 2 ^ ws.length ∧ chosenOf ws c = ch := by
  induction h with
  | slnil => exact ⟨0, by simp, rfl⟩
  | cons w _ ih =>
    obtain ⟨c, h1, h2⟩ := ih
    refine ⟨2 * c, by rw [List.length_cons, Nat.pow_succ]; omega, ?_⟩
    unfold chosenOf
    rw [if_neg (by omega), show 2 * c / 2 = c by omega, h2]
  | cons_cons w _ ih =>
    obtain ⟨c, h1, h2⟩ := ih
    refine ⟨2 * c + 1, by rw [List.length_cons, Nat.pow_succ]; omega, ?_⟩
    unfold chosenOf
    rw [if_pos (by omega), show (2 * c + 1) / 2 = c by omega, h2]
theorem chosen_snoc {α : Type} (x : α) : ∀ (l : List α) (c : Nat), chosenOf (l ++ [x]) c = if c / 2 ^ l.length % 2 = 1 then chosenOf l c ++ [x] else chosenOf l c
  | [], c => by simp [chosenOf]
  | y :: l, c => by
    have e : c / 2 ^ (l.length + 1) = c / 2 / 2 ^ l.length := by rw [Nat.pow_succ, Nat.mul_comm, Nat.div_div_eq_div_mul]
    rw [List.cons_append, List.length_cons, e]
    unfold chosenOf
    rw [chosen_snoc x l (c / 2)]
    split <;> split <;> rfl
theorem chosen_length {α β : Type} : ∀ (l : List α) (m : List β) (c : Nat), l.length = m.length → (chosenOf l c).length = (chosenOf m c).length
  | [], [], _, _ => rfl
  | x :: l, y :: m, c, h => by
    unfold chosenOf
    have := chosen_length l m (c / 2) (by simpa using h)
    split <;> simp [this]
  | [], _ :: _, _, h => by simp at h
  | _ :: _, [], _, h => by simp at h
theorem foundOf_succ (ws : List (Int × Nat)) (n : Nat) : foundOf ws (n + 1) = foundStep (foundOf ws n) (chosenOf ws n) := by
  unfold foundOf
  rw [List.range_succ, List.foldl_append]
  rfl
theorem foundOf_length (ws : List (Int × Nat)) (n : Nat) : (foundOf ws n).length = ws.length + 1 := by
  induction n with
  | zero => simp [foundOf]
  | succ n ih => rw [foundOf_succ]; unfold foundStep; split <;> simp [ih]
def sumsAt (ws : List (Int × Nat)) (n k : Nat) : List Nat := (((List.range n).map (chosenOf ws)).filter fun ch => inTime ch && decide (ch.length = k)).map lenSum
theorem foundOf_at (ws : List (Int × Nat)) (n k : Nat) (hk : k ≤ ws.length) : (foundOf ws n)[k]? = some (sumsAt ws n k) := by
  induction n with
  | zero => simp [foundOf, sumsAt, List.getElem?_replicate]; omega
  | succ n ih =>
    rw [foundOf_succ]
    have e : sumsAt ws (n + 1) k = sumsAt ws n k ++ (([chosenOf ws n].filter fun ch => inTime ch && decide (ch.length = k)).map lenSum) := by
      unfold sumsAt
      rw [List.range_succ, List.map_append, List.filter_append, List.map_append]
      rfl
    rw [e]
    unfold foundStep
    by_cases h1 : inTime (chosenOf ws n) = true
    · rw [if_pos h1, List.getElem?_modify, ih]
      by_cases h2 : (chosenOf ws n).length = k
      · simp [h1, h2]
      · simp [h2]
    · rw [if_neg h1, ih]
      simp [h1]
theorem mem_sumsAt {ws : List (Int × Nat)} {k v : Nat} : v ∈ sumsAt ws (2 ^ ws.length) k ↔ ∃ ch, ch.Sublist ws ∧ inTime ch = true ∧ ch.length = k ∧ lenSum ch = v := by
  unfold sumsAt
  simp only [List.mem_map, List.mem_filter, Bool.and_eq_true, decide_eq_true_eq, List.mem_range]
  constructor
  · rintro ⟨ch, ⟨⟨c, hc, rfl⟩, h2, h3⟩, rfl⟩
    exact ⟨_, chosen_sub ws c, h2, h3, rfl⟩
  · rintro ⟨ch, h1, h2, h3, rfl⟩
    obtain ⟨c, hc, e⟩ := chosen_all h1
    exact ⟨ch, ⟨⟨c, hc, e⟩, h2, h3⟩, rfl⟩
/-- what the rule of Moore and Hodgson keeps -/
structure Kept (ws : List (Int × Nat)) (l : List Nat) : Prop where
  due : l ≠ [] → ∀ d : Int, (∀ w ∈ ws, w.1 ≤ d) → 1800 * (l.sum : Int) ≤ d
  ach : ∀ k, k ≤ l.length → ∃ ch, ch.Sublist ws ∧ inTime ch = true ∧ ch.length = k ∧ lenSum ch = (l.take k).sum
  low : ∀ ch, ch.Sublist ws → inTime ch = true → ch.length ≤ l.length ∧ (l.take ch.length).sum ≤ lenSum ch
theorem Kept.nil : Kept [] [] where
  due h := absurd rfl h
  ach k hk := ⟨[], List.Sublist.slnil, rfl, (Nat.le_zero.mp hk).symm, by simp [lenSum]⟩
  low ch h _ := by rw [List.sublist_nil.mp h]; simp
theorem lenSum_append (a b : List (Int × Nat)) : lenSum (a ++ b) = lenSum a + lenSum b := by simp [lenSum]
theorem lenSum_filter_le (p : Int × Nat → Bool) (ch : List (Int × Nat)) : lenSum (ch.filter p) ≤ lenSum ch := by
  induction ch with
  | nil => simp
  | cons w ch ih =>
    rw [List.filter_cons]
    split
    · simp only [lenSum, List.map_cons, List.sum_cons] at *; omega
    · simp only [lenSum, List.map_cons, List.sum_cons] at *; omega
/-- one more mail, due last -/
theorem inTime_snoc {ch : List (Int × Nat)} {w : Int × Nat} (hw : ∀ v ∈ ch, v.1 ≤ w.1) : inTime (ch ++ [w]) = true ↔ inTime ch = true ∧ 1800 * ((lenSum ch + w.2 : Nat) : Int) ≤ w.1 := by
  have hall : ch.filter (fun o => decide (o.1 ≤ w.1)) = ch := List.filter_eq_self.mpr fun v hv => by simpa using hw v hv
  have one : lenSum [w] = w.2 := by simp [lenSum]
  unfold inTime
  simp only [List.all_append, List.all_cons, List.all_nil, Bool.and_true, Bool.and_eq_true, List.all_eq_true, decide_eq_true_eq, Int.not_lt, gt_iff_lt]
  have hlast : lenSum ((ch ++ [w]).filter fun o => decide (o.1 ≤ w.1)) = lenSum ch + w.2 := by
    rw [List.filter_append, hall, lenSum_append]
    simp [lenSum]
  rw [hlast]
  constructor
  · rintro ⟨h1, h2⟩
    refine ⟨fun v hv => ?_, h2⟩
    have := h1 v hv
    rw [List.filter_append, lenSum_append] at this
    omega
  · rintro ⟨h1, h2⟩
    refine ⟨fun v hv => ?_, h2⟩
    have a := h1 v hv
    rw [List.filter_append, lenSum_append]
    by_cases hc : w.1 ≤ v.1
    · have e : v.1 = w.1 := Int.le_antisymm (hw v hv) hc
      have b := lenSum_filter_le (fun o => decide (o.1 ≤ v.1)) ch
      have c := lenSum_filter_le (fun o => decide (o.1 ≤ v.1)) [w]
      rw [one] at c
      omega
    · have : ([w].filter fun o => decide (o.1 ≤ v.1)) = [] := by simp; omega
      rw [this]
      simpa [lenSum] using a
theorem sub_snoc {α : Type} {ch ws : List α} {w : α} (h : ch.Sublist (ws ++ [w])) : ch.Sublist ws ∨ ∃ c', ch = c' ++ [w] ∧ c'.Sublist ws := by
  obtain ⟨a, b, rfl, h1, h2⟩ := List.sublist_append_iff.mp h
  rcases List.sublist_cons_iff.mp h2 with h3 | ⟨r, rfl, h3⟩
  · rw [List.sublist_nil.mp h3, List.append_nil]; exact .inl h1
  · rw [List.sublist_nil.mp h3]; exact .inr ⟨a, rfl, h1⟩
def insAt (l : List Nat) (p x : Nat) : List Nat := l.take p ++ x :: l.drop p
theorem take_sum_succ (l : List Nat) (k : Nat) (h : k < l.length) : (l.take (k + 1)).sum = (l.take k).sum + l[k] := by
  rw [List.take_add_one, List.getElem?_eq_getElem h, List.sum_append]; simp
theorem take_sum_le (l : List Nat) (k : Nat) : (l.take k).sum ≤ l.sum := by
  have : l.sum = (l.take k).sum + (l.drop k).sum := by rw [← List.sum_append, List.take_append_drop]
  omega
section
variable {l : List Nat} {p x : Nat} (hp : p ≤ l.length)
include hp
theorem insAt_length : (insAt l p x).length = l.length + 1 := by simp [insAt]; omega
theorem insAt_sum : (insAt l p x).sum = l.sum + x := by
  have : l.sum = (l.take p).sum + (l.drop p).sum := by rw [← List.sum_append, List.take_append_drop]
  simp [insAt]; omega
theorem insAt_take_lo {k : Nat} (hk : k ≤ p) : ((insAt l p x).take k).sum = (l.take k).sum := by
  rw [insAt, List.take_append_of_le_length (by rw [List.length_take]; omega), List.take_take, Nat.min_eq_left hk]
theorem insAt_take_hi {k : Nat} (hk : p < k) : ((insAt l p x).take k).sum = (l.take (k - 1)).sum + x := by
  obtain ⟨j, rfl⟩ : ∃ j, k = p + 1 + j := ⟨k - (p + 1), by omega⟩
  have e : (l.take p).length = p := by rw [List.length_take]; omega
  rw [insAt, List.take_append, e, List.take_take, Nat.min_eq_right (by omega), show p + 1 + j - p = j + 1 by omega, List.take_succ_cons, show p + 1 + j - 1 = p + j by omega, List.take_add]
  simp; omega
variable (h1 : ∀ i, i < p → ∀ v, l[i]? = some v → v < x) (h2 : ∀ i, p ≤ i → ∀ v, l[i]? = some v → x ≤ v)
include h1 h2
theorem insAt_le1 {k : Nat} (hk : k ≤ l.length) : ((insAt l p x).take k).sum ≤ (l.take k).sum := by
  by_cases h : k ≤ p
  · exact Nat.le_of_eq (insAt_take_lo hp h)
  · rw [insAt_take_hi hp (by omega)]
    obtain ⟨j, rfl⟩ : ∃ j, k = j + 1 := ⟨k - 1, by omega⟩
    have hj : j < l.length := by omega
    rw [take_sum_succ l j hj]
    have := h2 j (by omega) _ (List.getElem?_eq_getElem hj)
    simp only [Nat.add_sub_cancel]; omega
theorem insAt_le2 {k : Nat} (hk : 1 ≤ k) : ((insAt l p x).take k).sum ≤ (l.take (k - 1)).sum + x := by
  by_cases h : k ≤ p
  · rw [insAt_take_lo hp h]
    obtain ⟨j, rfl⟩ : ∃ j, k = j + 1 := ⟨k - 1, by omega⟩
    have hj : j < l.length := by omega
    rw [take_sum_succ l j hj]
    have := h1 j (by omega) _ (List.getElem?_eq_getElem hj)
    simp only [Nat.add_sub_cancel]; omega
  · exact Nat.le_of_eq (insAt_take_hi hp (by omega))
end
/-- one turn of the rule -/
theorem Kept.step {ws : List (Int × Nat)} {l : List Nat} {w : Int × Nat} {p : Nat} (K : Kept ws l) (hw : ∀ v ∈ ws, v.1 ≤ w.1) (hp : p ≤ l.length)
    (h1 : ∀ i, i < p → ∀ v, l[i]? = some v → v < w.2) (h2 : ∀ i, p ≤ i → ∀ v, l[i]? = some v → w.2 ≤ v) :
    Kept (ws ++ [w]) (if 1800 * ((insAt l p w.2).sum : Int) > w.1 then (insAt l p w.2).dropLast else insAt l p w.2) := by
  have hlen := insAt_length (x := w.2) hp
  have hsum := insAt_sum (x := w.2) hp
  have up : ∀ {c : List (Int × Nat)}, c.Sublist ws → c.Sublist (ws ++ [w]) := fun h => h.trans (List.sublist_append_left ws [w])
  have hin : ∀ {c : List (Int × Nat)}, c.Sublist ws → ∀ v ∈ c, v.1 ≤ w.1 := fun h v hv => hw v (h.subset hv)
  have last : ∀ d : Int, (∀ v ∈ ws ++ [w], v.1 ≤ d) → w.1 ≤ d := fun d h => h w (by simp)
  have ach1 : ∀ k, k ≤ p → ∃ ch, ch.Sublist (ws ++ [w]) ∧ inTime ch = true ∧ ch.length = k ∧ lenSum ch = ((insAt l p w.2).take k).sum := fun k hk => by
    obtain ⟨ch, a, b, c, d⟩ := K.ach k (by omega)
    exact ⟨ch, up a, b, c, by rw [d, insAt_take_lo hp hk]⟩
  have ach2 : ∀ k, p < k → k ≤ l.length + 1 → 1800 * (((l.take (k - 1)).sum + w.2 : Nat) : Int) ≤ w.1 → ∃ ch, ch.Sublist (ws ++ [w]) ∧ inTime ch = true ∧ ch.length = k ∧ lenSum ch = ((insAt l p w.2).take k).sum := fun k hk hk2 hd => by
    obtain ⟨ch, a, b, c, d⟩ := K.ach (k - 1) (by omega)
    refine ⟨ch ++ [w], a.append_right [w], (inTime_snoc (hin a)).mpr ⟨b, by rw [d]; exact hd⟩, by simp [c]; omega, ?_⟩
    rw [insAt_take_hi hp hk, lenSum_append, d]
    simp [lenSum]
  have low1 : ∀ ch, ch.Sublist ws → inTime ch = true → ch.length ≤ l.length ∧ ((insAt l p w.2).take ch.length).sum ≤ lenSum ch := fun ch a b =>
    ⟨(K.low ch a b).1, Nat.le_trans (insAt_le1 hp h1 h2 (K.low ch a b).1) (K.low ch a b).2⟩
  have low2 : ∀ c', c'.Sublist ws → inTime (c' ++ [w]) = true → c'.length ≤ l.length ∧ ((insAt l p w.2).take (c' ++ [w]).length).sum ≤ lenSum (c' ++ [w]) ∧ 1800 * ((lenSum c' + w.2 : Nat) : Int) ≤ w.1 ∧ (l.take c'.length).sum ≤ lenSum c' := fun c' a b => by
    obtain ⟨b1, b2⟩ := (inTime_snoc (hin a)).mp b
    obtain ⟨q1, q2⟩ := K.low c' a b1
    refine ⟨q1, ?_, b2, q2⟩
    have := insAt_le2 hp h1 h2 (k := (c' ++ [w]).length) (by simp)
    rw [lenSum_append]
    have e : (c' ++ [w]).length - 1 = c'.length := by simp
    rw [e] at this
    simp only [lenSum, List.map_cons, List.map_nil, List.sum_cons, List.sum_nil] at *
    omega
  split
  · rename_i hgt
    have htk : ∀ k, k ≤ l.length → ((insAt l p w.2).dropLast).take k = (insAt l p w.2).take k := fun k hk => by
      rw [List.dropLast_eq_take, List.take_take, Nat.min_eq_left (by omega)]
    have hdl : ((insAt l p w.2).dropLast).length = l.length := by rw [List.length_dropLast]; omega
    have hds : ((insAt l p w.2).dropLast).sum ≤ l.sum := by
      have := insAt_le1 hp h1 h2 (k := l.length) (Nat.le_refl _)
      rw [List.take_length] at this
      rw [List.dropLast_eq_take, hlen]
      exact this
    have hne : 1 ≤ l.length → 1800 * (l.sum : Int) ≤ w.1 := fun h => K.due (by rintro rfl; simp at h) w.1 hw
    refine ⟨fun hn d hd => ?_, fun k hk => ?_, fun ch h hi => ?_⟩
    · have : 1 ≤ l.length := by
        rw [← hdl]
        exact Nat.pos_of_ne_zero fun e => hn (List.length_eq_zero_iff.mp e)
      have a := hne this
      have b := last d hd
      omega
    · rw [hdl] at hk
      rw [htk k hk]
      by_cases h : k ≤ p
      · exact ach1 k h
      · refine ach2 k (by omega) (by omega) ?_
        have a := hne (by omega)
        have b : (l.take (k - 1)).sum + w.2 ≤ (l.take k).sum := by
          rw [← insAt_take_hi hp (by omega)]; exact insAt_le1 hp h1 h2 hk
        have c := take_sum_le l k
        omega
    · rw [hdl]
      rcases sub_snoc h with h | ⟨c', rfl, h'⟩
      · obtain ⟨a, b⟩ := low1 ch h hi
        rw [htk _ a]
        exact ⟨a, b⟩
      · obtain ⟨a, b, c, d⟩ := low2 c' h' hi
        have hlt : c'.length < l.length := by
          rcases Nat.lt_or_ge c'.length l.length with h8 | h8
          · exact h8
          · have e : l.take c'.length = l := List.take_of_length_le h8
            rw [e] at d
            omega
        have hk : (c' ++ [w]).length ≤ l.length := by simp; omega
        rw [htk _ hk]
        exact ⟨hk, b⟩
  · rename_i hgt
    refine ⟨fun _ d hd => ?_, fun k hk => ?_, fun ch h hi => ?_⟩
    · have := last d hd
      omega
    · rw [hlen] at hk
      by_cases h : k ≤ p
      · exact ach1 k h
      · refine ach2 k (by omega) hk ?_
        have := take_sum_le l (k - 1)
        omega
    · rw [hlen]
      rcases sub_snoc h with h | ⟨c', rfl, h'⟩
      · obtain ⟨a, b⟩ := low1 ch h hi
        exact ⟨by omega, b⟩
      · obtain ⟨a, b, _⟩ := low2 c' h' hi
        exact ⟨by simp; omega, b⟩
def sumsOf (l : List Nat) : List Nat := (List.range (l.length + 1)).map fun k => (l.take k).sum
theorem filterMap_take {f : Nat → Option Nat} {g : Nat → Nat} {m n : Nat} (hmn : m ≤ n) (h1 : ∀ k, k < m → f k = some (g k)) (h2 : ∀ k, m ≤ k → f k = none) : (List.range n).filterMap f = (List.range m).map g := by
  induction n with
  | zero => obtain rfl : m = 0 := by omega
            rfl
  | succ n ih =>
    rw [List.range_succ, List.filterMap_append]
    by_cases h : m ≤ n
    · rw [ih h]; simp [h2 n h]
    · obtain rfl : m = n + 1 := by omega
      rw [List.range_succ, List.map_append]
      have : ∀ j, j ≤ n → (List.range j).filterMap f = (List.range j).map g := by
        intro j
        induction j with
        | zero => intro _; rfl
        | succ j ih => intro hj; rw [List.range_succ, List.filterMap_append, List.map_append, ih (by omega)]; simp [h1 j (by omega)]
      rw [this n (Nat.le_refl _)]
      simp [h1 n (by omega)]
/-- the law's own reckoning is what the kept ones' sums are -/
theorem Kept.least {ws : List (Int × Nat)} {l : List Nat} (K : Kept ws l) : leastOf ws = sumsOf l := by
  have hl : l.length ≤ ws.length := by
    obtain ⟨ch, a, _, c, _⟩ := K.ach l.length (Nat.le_refl _)
    rw [← c]; exact a.length_le
  have e : foundOf ws (2 ^ ws.length) = (List.range (ws.length + 1)).map (sumsAt ws (2 ^ ws.length)) := by
    refine List.ext_getElem? fun k => ?_
    by_cases hk : k ≤ ws.length
    · rw [foundOf_at ws _ k hk, List.getElem?_map, List.getElem?_range (by omega)]
      rfl
    · rw [List.getElem?_eq_none (by rw [foundOf_length]; omega), List.getElem?_eq_none (by simp; omega)]
  unfold leastOf sumsOf
  rw [e, List.filterMap_map]
  refine filterMap_take (by omega) (fun k hk => ?_) fun k hk => ?_
  · show (sumsAt ws (2 ^ ws.length) k).min? = _
    rw [List.min?_eq_some_iff]
    refine ⟨mem_sumsAt.mpr (K.ach k (by omega)), fun v hv => ?_⟩
    obtain ⟨ch, a, b, c, rfl⟩ := mem_sumsAt.mp hv
    have := (K.low ch a b).2
    rw [c] at this
    exact this
  · show (sumsAt ws (2 ^ ws.length) k).min? = none
    rw [List.min?_eq_none_iff, List.eq_nil_iff_forall_not_mem]
    intro v hv
    obtain ⟨ch, a, b, c, rfl⟩ := mem_sumsAt.mp hv
    have := (K.low ch a b).1
    omega
end Mine
end

section
open PySem PySem.W PySem.Calls PyProof.Rows
namespace Mine
local macro_rules | `(tactic| walk_at "m_pad0") => `(tactic| skip)
local macro_rules | `(tactic| walk_at "m_pad1") => `(tactic| skip)
local macro_rules | `(tactic| walk_at "m_pad2") => `(tactic| skip)
local macro_rules | `(tactic| walk_at "m_pad3") => `(tactic| skip)
local macro_rules | `(tactic| walk_at "m_pad4") => `(tactic| skip)
variable {w : World} {mean : ExcName → Option Value} {mg mb : Str → Option Value}
set_option maxRecDepth 100000
set_option maxHeartbeats 8000000
local macro_rules | `(tactic| walk_at "m_toMin") => `(tactic| repeat' ((fail_if_success (with_reducible show wpAny _ _ (call (Value.builtin "min") _ _) _ _ _)); (walk_at "m_step1")))
local macro_rules | `(tactic| walk_at "m_toSubT") => `(tactic| repeat' ((fail_if_success (with_reducible show wpAny _ _ (subscriptTail _ _ (Value.ref _) (Value.int _ _)) _ _ _)); (walk_at "m_step1")))
local macro_rules | `(tactic| walk_at "call builtin:len") => `(tactic| (k_here; (with_reducible show wpAny _ _ (call (Value.builtin "len") [Value.ref _]) _ _ _); (with_unfolding_all refine' len_list ?k1 ?k2 ?_; (case k1 => exact News.isList (by k_asm) (by k_mem)); (case k2 => rw [List.size_toArray]; omega); k_whole)))
local macro_rules | `(tactic| walk_at "m_toCmp") => `(tactic| repeat' ((fail_if_success (with_reducible show wpAny _ _ (compareOp _ (Value.ref _) (Value.ref _)) _ _ _)); (walk_at "m_step1")))
local macro_rules | `(tactic| walk_at "eval Name") => `(tactic| (k_here; (with_reducible show wpAny _ _ (eval (PySem.Expr.Name _ _) (compEnvC _ _ _ _)) _ _ _); k_dflt (first
  | (refine' ld_comp ?F ?v ?_ ?k ?l ?d; (case k => rfl); (case l => rfl); (case d => decide); (case F => k_asm); (case v => assumption))
  | (refine' ld_compcellN ?N ?c ?m ?d ?_ ?k ?l ?n; (case k => rfl); (case l => rfl); (case n => decide); (case N => k_asm); (case c => rfl); (case m => (first | assumption | exact List.Mem.tail _ (by assumption))); (case d => assumption))
  | (refine' ld_compfree ?F ?c ?b ?d ?_ ?k ?l ?n ?n2; (case k => rfl); (case l => rfl); (case n => decide); (case n2 => decide); (case F => k_asm); (case c => rfl); (case b => assumption); (case d => assumption)))))
theorem bit_iff (i k : Nat) : ((i : Int).fdiv (2 ^ ((k : Int)).toNat)).fmod 2 = 1 ↔ i / 2 ^ k % 2 = 1 := by
  rw [Int.toNat_natCast, show ((2 : Int) ^ k) = ((2 ^ k : Nat) : Int) by simp, Int.fdiv_eq_ediv_of_nonneg _ (Int.natCast_nonneg _), Int.fmod_eq_emod_of_nonneg _ (by decide)]
  omega
theorem chosen_turn {α : Type} {l : List α} {i k : Nat} {v : α} (h : l[k]? = some v) : chosenOf (l.take (k + 1)) i = if i / 2 ^ k % 2 = 1 then chosenOf (l.take k) i ++ [v] else chosenOf (l.take k) i := by
  have hk : k < l.length := by
    rcases Nat.lt_or_ge k l.length with q | q
    · exact q
    · rw [List.getElem?_eq_none q] at h; cases h
  rw [List.take_add_one, h]
  show chosenOf (l.take k ++ [v]) i = _
  rw [chosen_snoc, List.length_take, Nat.min_eq_left (Nat.le_of_lt hk)]
def lensTo (ch : List (Int × Nat)) (d : Int) (j : Nat) : List Int := ((ch.take j).filter fun o => o.1 ≤ d).map fun o => ((o.2 : Nat) : Int)
theorem lensTo_zero (ch : List (Int × Nat)) (d : Int) : lensTo ch d 0 = [] := by simp [lensTo]
theorem lensTo_pos {ch : List (Int × Nat)} {d : Int} {j : Nat} {w : Int × Nat} (h : ch[j]? = some w) (hd : w.1 ≤ d) : lensTo ch d (j + 1) = lensTo ch d j ++ [((w.2 : Nat) : Int)] := by
  unfold lensTo
  rw [List.take_add_one, h, List.filter_append, List.map_append]
  simp [hd]
theorem lensTo_neg {ch : List (Int × Nat)} {d : Int} {j : Nat} {w : Int × Nat} (h : ch[j]? = some w) (hd : ¬ w.1 ≤ d) : lensTo ch d (j + 1) = lensTo ch d j := by
  unfold lensTo
  rw [List.take_add_one, h, List.filter_append, List.map_append]
  simp [hd]
theorem natSum_cast (l : List Nat) : ((l.sum : Nat) : Int) = (l.map fun n => ((n : Nat) : Int)).sum := by
  induction l with
  | nil => rfl
  | cons a l ih => simp [ih]
theorem lensTo_sum {ch : List (Int × Nat)} {d : Int} {j : Nat} (hj : ch.length ≤ j) : (lensTo ch d j).sum = ((lenSum (ch.filter fun o => o.1 ≤ d) : Nat) : Int) := by
  unfold lensTo lenSum
  rw [List.take_of_length_le hj, natSum_cast, List.map_map]
  rfl
/-- one work: (due, place, octets) -/
def IsWork (h : Heap) (v : Value) (w : Int × Nat) : Prop := ∃ T t u b t', v = .ref T ∧ IsTup h T #[.int w.1 t, u, .bytes b t'] ∧ b.size = w.2 ∧ w.2 ≤ 100
theorem IsWork.keeps {h h' : Heap} {v : Value} {w : Int × Nat} (x : IsWork h v w) (k : ∀ b o, h.get? b = some o → h'.get? b = some o) : IsWork h' v w := by
  obtain ⟨T, t, u, b, t', e, h1, h2, h3⟩ := x; exact ⟨T, t, u, b, t', e, IsTup.keeps h1 k, h2, h3⟩
inductive WorksL (h : Heap) : List Value → List (Int × Nat) → Prop
  | nil : WorksL h [] []
  | cons {v : Value} {w : Int × Nat} {vs : List Value} {ws : List (Int × Nat)} : IsWork h v w → WorksL h vs ws → WorksL h (v :: vs) (w :: ws)
theorem WorksL.length {h : Heap} {vs : List Value} {ws : List (Int × Nat)} (x : WorksL h vs ws) : vs.length = ws.length := by
  induction x with
  | nil => rfl
  | cons _ _ ih => simp [ih]
theorem WorksL.keeps {h h' : Heap} {vs : List Value} {ws : List (Int × Nat)} (x : WorksL h vs ws) (k : ∀ b o, h.get? b = some o → h'.get? b = some o) : WorksL h' vs ws := by
  induction x with
  | nil => exact .nil
  | cons a _ ih => exact .cons (a.keeps k) ih
theorem WorksL.chosen {h : Heap} {vs : List Value} {ws : List (Int × Nat)} (x : WorksL h vs ws) : ∀ c, WorksL h (chosenOf vs c) (chosenOf ws c) := by
  induction x with
  | nil => intro c; exact .nil
  | cons a _ ih =>
    intro c
    unfold chosenOf
    split
    · exact .cons a (ih _)
    · exact ih _
theorem WorksL.at {h : Heap} {vs : List Value} {ws : List (Int × Nat)} (x : WorksL h vs ws) : ∀ {i : Nat} {v : Value}, vs[i]? = some v → ∃ w, ws[i]? = some w ∧ IsWork h v w := by
  induction x with
  | nil => intro i v e; simp at e
  | cons a _ ih =>
    intro i v e
    cases i with
    | zero => simp at e; subst e; exact ⟨_, rfl, a⟩
    | succ i => simp at e; simpa using ih e
def lateOk (ch : List (Int × Nat)) (j : Nat) : Bool := (ch.take j).all fun v => decide (¬ (1800 * ((lenSum (ch.filter fun o => o.1 ≤ v.1) : Nat) : Int) > v.1))
theorem late_turn {ch : List (Int × Nat)} {j : Nat} {w : Int × Nat} (h : ch[j]? = some w) : lateOk ch (j + 1) = (lateOk ch j && decide (¬ (1800 * ((lenSum (ch.filter fun o => o.1 ≤ w.1) : Nat) : Int) > w.1))) := by
  unfold lateOk
  rw [List.take_add_one, h, List.all_append]
  simp
theorem late_all {ch : List (Int × Nat)} {j : Nat} (h : ch.length ≤ j) : lateOk ch j = inTime ch := by
  unfold lateOk inTime
  rw [List.take_of_length_le h]
def lensAll (ch : List (Int × Nat)) (j : Nat) : List Int := (ch.take j).map fun o => ((o.2 : Nat) : Int)
theorem lensAll_turn {ch : List (Int × Nat)} {j : Nat} {w : Int × Nat} (h : ch[j]? = some w) : lensAll ch (j + 1) = lensAll ch j ++ [((w.2 : Nat) : Int)] := by
  unfold lensAll
  rw [List.take_add_one, h, List.map_append]
  rfl
theorem lensAll_sum {ch : List (Int × Nat)} {j : Nat} (hj : ch.length ≤ j) : (lensAll ch j).sum = ((lenSum ch : Nat) : Int) := by
  unfold lensAll lenSum
  rw [List.take_of_length_le hj, natSum_cast, List.map_map]
  rfl
theorem IsWork.le {h : Heap} {v : Value} {w : Int × Nat} (x : IsWork h v w) : w.2 ≤ 100 := by obtain ⟨_, _, _, _, _, _, _, _, h3⟩ := x; exact h3
theorem WorksL.lenSum {h : Heap} {vs : List Value} {ws : List (Int × Nat)} (x : WorksL h vs ws) : lenSum ws ≤ 100 * ws.length := by
  induction x with
  | nil => simp [Mine.lenSum]
  | cons a _ ih => have := a.le; simp [Mine.lenSum] at *; omega
/-- each is a new empty list behind C, all apart -/
def NewLists (C : Addr) (ys : List Value) (h : Heap) : Prop := ys.Pairwise (· ≠ ·) ∧ ∀ y ∈ ys, ∃ a, y = .ref a ∧ @LT.lt Nat _ C a ∧ h.get? a = some (lst [])
theorem NewLists.keeps {C : Addr} {ys : List Value} {h h' : Heap} (x : NewLists C ys h) (k : ∀ b o, C < b → h.get? b = some o → h'.get? b = some o) : NewLists C ys h' :=
  ⟨x.1, fun y hy => by obtain ⟨a, e, l, g⟩ := x.2 y hy; exact ⟨a, e, l, k _ _ l g⟩⟩
theorem NewLists.push {C : Addr} {ys : List Value} {h h' : Heap} (x : NewLists C ys h) (k : ∀ b : Nat, @LT.lt Nat _ C b → ∀ o, h.get? b = some o → h'.get? b = some o) (hC : @LT.lt Nat _ C h.objs.size) (e : h'.get? h.objs.size = some (lst [])) : NewLists C (ys ++ [.ref h.objs.size]) h' := by
  refine ⟨List.pairwise_append.mpr ⟨x.1, List.pairwise_singleton _ _, fun y hy z hz => ?_⟩, fun y hy => ?_⟩
  · obtain ⟨a, e1, l, g⟩ := x.2 y hy
    rw [List.mem_singleton.mp hz, e1]
    intro q
    injection q with q
    exact absurd (Heap.lt_size g) (by rw [q]; exact Nat.lt_irrefl _)
  · rcases List.mem_append.mp hy with hy | hy
    · obtain ⟨a, e1, l, g⟩ := x.2 y hy
      exact ⟨a, e1, l, k _ l _ g⟩
    · exact ⟨_, List.mem_singleton.mp hy, hC, e⟩
theorem NewLists.addrs {C : Addr} {h : Heap} : ∀ {ys : List Value}, NewLists C ys h → ∃ il : List Addr, ys = il.map Value.ref ∧ il.Nodup ∧ ∀ a ∈ il, @LT.lt Nat _ C a ∧ h.get? a = some (lst [])
  | [], _ => ⟨[], rfl, List.nodup_nil, fun _ h => nomatch h⟩
  | y :: ys, x => by
    obtain ⟨h1, h2⟩ := List.pairwise_cons.mp x.1
    obtain ⟨il, e, nd, al⟩ := NewLists.addrs (ys := ys) ⟨h2, fun z hz => x.2 z (List.mem_cons_of_mem _ hz)⟩
    obtain ⟨a, e1, l, g⟩ := x.2 y List.mem_cons_self
    refine ⟨a :: il, by rw [e1, e]; rfl, List.nodup_cons.mpr ⟨fun hm => h1 y ?_ rfl, nd⟩, fun b hb => ?_⟩
    · rw [e1, e]; exact List.mem_map_of_mem hm
    · rcases List.mem_cons.mp hb with rfl | hb
      · exact ⟨l, g⟩
      · exact al b hb
abbrev entF (il : List Addr) (vss : List (Array Value × Nat)) : List (Addr × Obj) := List.zipWith (fun a v => (a, W.listOf v.1 v.2)) il vss
inductive IntsLL : List (Array Value × Nat) → List (List Nat) → Prop
  | nil : IntsLL [] []
  | cons {v : Array Value × Nat} {vs : List (Array Value × Nat)} {l : List Nat} {ls : List (List Nat)} : IntsAre v.1.toList (l.map Int.ofNat) → IntsLL vs ls → IntsLL (v :: vs) (l :: ls)

theorem mem_entF {p : Addr × Obj} : ∀ {il : List Addr} {vss : List (Array Value × Nat)}, p ∈ entF il vss → p.1 ∈ il
  | a :: il, v :: vss, h => by
    rcases List.mem_cons.mp h with rfl | h
    · exact List.mem_cons_self
    · exact List.mem_cons_of_mem _ (mem_entF (il := il) (vss := vss) h)
  | [], _, h => by simp [entF] at h
  | _ :: _, [], h => by simp [entF] at h
theorem entF_mem {a : Addr} : ∀ {il : List Addr} {vss : List (Array Value × Nat)}, il.length = vss.length → a ∈ il → ∃ o, (a, o) ∈ entF il vss
  | b :: il, v :: vss, e, h => by
    rcases List.mem_cons.mp h with rfl | h
    · exact ⟨_, List.mem_cons_self⟩
    · obtain ⟨o, ho⟩ := entF_mem (il := il) (vss := vss) (by simpa using e) h
      exact ⟨o, List.mem_cons_of_mem _ ho⟩
  | [], _, _, h => by simp at h
  | _ :: _, [], e, _ => by simp at e
theorem entF_split : ∀ {il : List Addr} {vss : List (Array Value × Nat)} {k : Nat}, il.length = vss.length → k < il.length → il.Nodup →
    ∃ a v pre post, il[k]? = some a ∧ vss[k]? = some v ∧ entF il vss = pre ++ (a, W.listOf v.1 v.2) :: post ∧ (∀ v', entF il (vss.set k v') = pre ++ (a, W.listOf v'.1 v'.2) :: post) ∧ a ∈ il ∧ (∀ p ∈ pre, p.1 ≠ a) ∧ (∀ p ∈ post, p.1 ≠ a) ∧ (∀ p ∈ pre, p.1 ∈ il) ∧ ∀ p ∈ post, p.1 ∈ il
  | b :: il, v :: vss, 0, _, _, nd => by
    obtain ⟨n1, _⟩ := List.nodup_cons.mp nd
    refine ⟨b, v, [], entF il vss, rfl, rfl, rfl, fun v' => rfl, List.mem_cons_self, fun p hp => (nomatch hp), fun p hp e => n1 (e ▸ mem_entF hp), fun p hp => (nomatch hp), fun p hp => List.mem_cons_of_mem _ (mem_entF hp)⟩
  | b :: il, v :: vss, k + 1, e, hk, nd => by
    obtain ⟨n1, nd'⟩ := List.nodup_cons.mp nd
    obtain ⟨a, w, pre, post, h1, h2, h3, h4, h5, h6, h7, h8, h9⟩ := entF_split (il := il) (vss := vss) (k := k) (by simpa using e) (by simpa using hk) nd'
    refine ⟨a, w, (b, W.listOf v.1 v.2) :: pre, post, by simpa using h1, by simpa using h2, ?_, fun v' => ?_, List.mem_cons_of_mem _ h5, fun p hp => ?_, h7, fun p hp => ?_, fun p hp => List.mem_cons_of_mem _ (h9 p hp)⟩
    · show _ :: entF il vss = _
      rw [h3]; rfl
    · show _ :: entF il (vss.set k v') = _
      rw [h4]; rfl
    · rcases List.mem_cons.mp hp with rfl | hp
      · intro q; have q' : b = a := q; rw [q'] at n1; exact n1 h5
      · exact h6 p hp
    · rcases List.mem_cons.mp hp with rfl | hp
      · exact List.mem_cons_self
      · exact List.mem_cons_of_mem _ (h8 p hp)
  | [], _, _, _, h, _ => by simp at h
  | _ :: _, [], _, e, _, _ => by simp at e
theorem IntsLL.modify {vs : List (Array Value × Nat)} {ls : List (List Nat)} (x : IntsLL vs ls) : ∀ {k : Nat} {v v' : Array Value × Nat} {f : List Nat → List Nat}, vs[k]? = some v → (∀ l : List Nat, IntsAre v.1.toList (l.map Int.ofNat) → IntsAre v'.1.toList ((f l).map Int.ofNat)) → IntsLL (vs.set k v') (ls.modify k f) := by
  induction x with
  | nil => intro k v v' f h; simp at h
  | cons a b ih =>
    intro k v v' f h g
    cases k with
    | zero => simp at h; subst h; exact .cons (g _ a) b
    | succ k => exact .cons a (ih (by simpa using h) g)
theorem IntsLL.at {vs : List (Array Value × Nat)} {ls : List (List Nat)} (x : IntsLL vs ls) : ∀ {k : Nat} {v : Array Value × Nat} {l : List Nat}, vs[k]? = some v → ls[k]? = some l → IntsAre v.1.toList (l.map Int.ofNat) := by
  induction x with
  | nil => intro k v l h; simp at h
  | cons a b ih =>
    intro k v l h g
    cases k with
    | zero => simp at h g; subst h; subst g; exact a
    | succ k => exact ih (by simpa using h) (by simpa using g)
theorem sumsAt_length (ws : List (Int × Nat)) (n k : Nat) : (sumsAt ws n k).length ≤ n := by
  unfold sumsAt
  rw [List.length_map]
  exact Nat.le_trans (List.length_filter_le _ _) (by simp)
theorem unr_end1 {h₀ : Heap} {L I : Addr} {oi : Obj} {rest : (Str → Option Value) → List (Addr × Obj) → Prop} {s₁ : Shared} {h' : Heap} {tk : Nat} {m' : Str → Option Value} {all : List (Addr × Obj)}
    (F : Fr h₀ L h' m') (N : News h₀ L h' all) (news' : List (Addr × Obj)) (h1 : (I, oi) ∈ all) (sub : ∀ p ∈ news', p ∈ all)
    (off : ∀ p ∈ news', @Ne Nat p.1 I) (r : rest m' news') : UnrEndW h₀ L s₁ [(I, oi)] rest { s₁ with heap := h', toks := tk } := by
  refine ⟨h', tk, m', news', rfl, F, fun p hp => ?_, fun p hp q hq e => ?_, r⟩
  · rcases List.mem_append.mp hp with hp | hp
    · rw [List.mem_singleton.mp hp]; exact N _ h1
    · exact N p (sub p hp)
  · rw [List.mem_singleton.mp hq] at e
    exact off p hp e
def LeastJ (ws : List (Int × Nat)) (W D c1 c2 : Addr) (il : List Addr) (i : Nat) (m : Str → Option Value) (nw : List (Addr × Obj)) : Prop :=
  ∃ (vss : List (Array Value × Nat)) (oA oB : Obj) (xA xB : Option Value) (tl : List (Addr × Obj)), nw = (D, lst (il.map Value.ref)) :: (c1, oA) :: (c2, oB) :: tl ∧ tl = entF il vss ∧ oA.data = .cell xA ∧ oB.data = .cell xB ∧ OwnOff tl [D, c1, c2] ∧ m (Str.ofString "works") = some (.ref W) ∧ m (Str.ofString "found") = some (.ref D) ∧ vss.length = il.length ∧ IntsLL vss (foundOf ws i)
theorem entF_const {p : Addr × Obj} : ∀ {il : List Addr}, p ∈ entF il (il.map fun _ => ((#[] : Array Value), 0)) → p.2 = lst []
  | a :: il, h => by
    rcases List.mem_cons.mp h with rfl | h
    · rfl
    · exact entF_const (il := il) h
  | [], h => by simp [entF] at h
theorem intsLL_nil : ∀ il : List Addr, IntsLL (il.map fun _ => ((#[] : Array Value), 0)) (List.replicate il.length [])
  | [] => .nil
  | _ :: il => .cons .nil (intsLL_nil il)
theorem minOf {l : List Nat} {M : Int} (a : M ∈ l.map Int.ofNat) (b : ∀ x ∈ l.map Int.ofNat, M ≤ x) : ∃ k, M = Int.ofNat k ∧ l.min? = some k := by
  obtain ⟨k, hk, rfl⟩ := List.mem_map.mp a
  refine ⟨k, rfl, List.min?_eq_some_iff.mpr ⟨hk, fun x hx => ?_⟩⟩
  have := b _ (List.mem_map_of_mem hx)
  exact Int.ofNat_le.mp this
def minsTo (fl : List (List Nat)) (j : Nat) : List Int := ((fl.take j).filterMap fun l : List Nat => l.min?).map Int.ofNat
theorem mins_turn {fl : List (List Nat)} {j : Nat} {l : List Nat} (h : fl[j]? = some l) : minsTo fl (j + 1) = minsTo fl j ++ (l.min?.toList.map Int.ofNat) := by
  unfold minsTo
  rw [List.take_add_one, h, List.filterMap_append, List.map_append]
  cases e : l.min? <;> simp [e]
theorem fresh_lo {h g : Heap} {a : Addr} (e : g.get? a = none) (k : ∀ b o, h.get? b = some o → g.get? b = some o) : h.get? a = none := by
  cases q : h.get? a with
  | none => rfl
  | some o => rw [k _ _ q] at e; cases e
theorem le_c2 {α : Type} {P : α → Prop} {a : α} {l : List α} (h1 : P a) (h2 : ∀ p ∈ l, P p) : ∀ p ∈ a :: l, P p := List.forall_mem_cons.mpr ⟨h1, h2⟩
theorem le_n2 {α : Type} {P : α → Prop} : ∀ p ∈ ([] : List α), P p := fun _ h => nomatch h
theorem le_split {α : Type} {tl tr pre post : List α} {x : α} (e : tl = pre ++ x :: post) (e2 : tr = pre ++ post) : x ∈ tl ∧ ∀ p ∈ tr, p ∈ tl := by
  subst e; subst e2
  refine ⟨List.mem_append_right _ List.mem_cons_self, fun p hp => ?_⟩
  rcases List.mem_append.mp hp with hp | hp
  · exact List.mem_append_left _ hp
  · exact List.mem_append_right _ (List.mem_cons_of_mem _ hp)
theorem LeastJ.elim {P : Prop} {ws : List (Int × Nat)} {W D c1 c2 : Addr} {il : List Addr} {i : Nat} {m : Str → Option Value} {nw : List (Addr × Obj)} (h : LeastJ ws W D c1 c2 il i m nw)
    (k : ∀ (vss : List (Array Value × Nat)) (oA oB : Obj) (xA xB : Option Value) (tl : List (Addr × Obj)), nw = (D, lst (il.map Value.ref)) :: (c1, oA) :: (c2, oB) :: tl → tl = entF il vss → oA.data = .cell xA → oB.data = .cell xB → OwnOff tl [D, c1, c2] → m (Str.ofString "works") = some (.ref W) → m (Str.ofString "found") = some (.ref D) → vss.length = il.length → IntsLL vss (foundOf ws i) → P) : P := by
  obtain ⟨vss, oA, oB, xA, xB, tl, h1, h2, h3, h4, h5, h6, h7, h8, h9⟩ := h
  exact k _ _ _ _ _ _ h1 h2 h3 h4 h5 h6 h7 h8 h9
theorem entF_elim {P : Prop} {il : List Addr} {vss : List (Array Value × Nat)} {k : Nat} (e : il.length = vss.length) (hk : k < il.length) (nd : il.Nodup)
    (K : ∀ (a : Addr) (its : Array Value) (nn : Nat) (pre post : List (Addr × Obj)), il[k]? = some a → vss[k]? = some (its, nn) → entF il vss = pre ++ (a, W.listOf its nn) :: post → (∀ v' : Array Value × Nat, entF il (vss.set k v') = pre ++ (a, W.listOf v'.1 v'.2) :: post) → a ∈ il → (∀ p ∈ pre, p.1 ≠ a) → (∀ p ∈ post, p.1 ≠ a) → (∀ p ∈ pre, p.1 ∈ il) → (∀ p ∈ post, p.1 ∈ il) → P) : P := by
  obtain ⟨a, ⟨its, nn⟩, pre, post, h1, h2, h3, h4, h5, h6, h7, h8, h9⟩ := entF_split e hk nd
  exact K _ _ _ _ _ h1 h2 h3 h4 h5 h6 h7 h8 h9
theorem WorksL.elim {P : Value → Prop} {h : Heap} {vs : List Value} {ws : List (Int × Nat)} (x : WorksL h vs ws) {i : Nat} {v : Value} (e : vs[i]? = some v)
    (K : ∀ (w : Int × Nat) (T : Addr) (t : Tok) (u : Value) (b : Array UInt8) (t' : Tok), ws[i]? = some w → IsTup h T #[.int w.1 t, u, .bytes b t'] → b.size = w.2 → w.2 ≤ 100 → P (.ref T)) : P v := by
  obtain ⟨w, hw, T, t, u, b, t', rfl, h1, h2, h3⟩ := x.at e
  exact K _ _ _ _ _ _ hw h1 h2 h3
theorem least_call (W : Addr) (items : Array Value) (ws : List (Int × Nat)) (hn : ws.length ≤ 5) :
    Calls2 w mean mg mb 128 [.ref W] [] (fun h => h.IsList W items ∧ WorksL h items.toList ws) (fun h v h' => ∃ D ys, v = .ref D ∧ h.get? D = none ∧ h'.get? D = some (lst ys) ∧ IntsAre ys ((leastOf ws).map Int.ofNat)) := by
  intro dp un gd cn cs a' ccd cl outer A₀ base h₀ L m s Q E B F X T9 hk hdp hun hpre hret
  have N : News h₀ L s.heap [] := News.nil
  refine wpAny_call ?_
  k_dflt walk_at "m_enterC"
  intro g L1 h1 tk1 cells1 FG F1 N1 Y1 B1 X1 T1 l1 G1
  have G2 : ∀ b o, s.heap.get? b = some o → g.get? b = some o := fun b o e => G1 b o List.not_mem_nil e
  have hl : g.IsList W items := hpre.1.at fun o e => G2 W o e
  have hw : WorksL g items.toList ws := hpre.2.keeps G2
  have hsz : items.size = ws.length := by simpa using hpre.2.length
  clear hpre
  try k_lt l1
  k_cells Y1
  try simp only [List.cons_append, List.nil_append] at N1
  try dsimp only
  try k_lift B1
  try k_fold
  walk_at "m_toComp"
  refine lc_assign (fun C i ys h => ys.length = i ∧ NewLists C ys h) (by rfl) (by with_unfolding_all rfl) (by decide) (by rfl) (by decide) (by rfl) (fun _ _ => ⟨rfl, List.Pairwise.nil, fun _ h => nomatch h⟩) (fun C i ys h h' hk hj => ⟨hj.1, hj.2.keeps hk⟩) ?_
  walk_at "m_toIter"
  rename_i Nb1 h8 tk8 t8 u8 v8 hR F8 N8 e8
  refine ask_range (n := items.size + 1) (by rfl) hR (small_one (by decide) (by decide) (by omega) (by omega)) (by rw [rangeSize_nat]; simp) (by rw [PySem.sizeLine_eq]; omega) ?tt ?dd
  case tt =>
    intro gg C i' v ys m₂ h tk base keepL E' hC ⟨hi', t', ev⟩ hJ hyl hx F N hE hk
    subst ev
    have Xb : (hd.heap_39 w.params).In base := X1.keeps fun b o e => hE b o (F8.keep b o e)
    have Tb : Top topProg LO mean mg mb base := T1.keeps fun b o e => hE b o (F8.keep b o e)
    clear N8 F8 hR
    dsimp only at hE hC
    refine wpAny_tests_nil ?_
    rw [if_pos rfl]
    dsimp only
    refine List_ ?_
    walk_at "m_step1"
    have hCs : @LT.lt Nat _ C h.objs.size := F.ns.lt
    refine newList_N F N (fun h' F' N' => ?_)
    dsimp only at F' N'
    refine WEnd.intro F' N' (fun p hp => List.Mem.tail _ hp) ⟨by rw [List.length_append, hJ.1]; rfl, hJ.2.push (fun b hb o e => (N' _ (List.Mem.tail _ (hk b o hb e))).1) hCs (N' _ (List.Mem.head _)).1⟩
  case dd =>
    intro gg D C ys m' h tk hD hDC hn9 hd he hJ
    refine post_assign F8 N8 ?pa hD hDC hn9 hd he (fun h' tk' F9 N9 l9 e9 e9' => ?pk) ?pb ?pc
    case pa => rfl
    case pb => rfl
    case pc => rfl
    have hCL : @LT.lt Nat _ L1 C := Nat.lt_trans F8.ns.lt (Nat.lt_trans hD hDC)
    have hinner : NewLists C ys h' := ⟨hJ.2.1, fun y hy => by
      obtain ⟨a, e1, l, q⟩ := hJ.2.2 y hy
      exact ⟨a, e1, l, e9' a _ (Nat.ne_of_gt l) (Nat.ne_of_gt (Nat.lt_trans hCL l)) q⟩⟩
    have hylen := hJ.1
    clear hJ F8 N8 e9 e9' he hR
    dsimp only
    k_steps
    clear hn9 hd hD
    refine For_turns F9 ?_
    walk_at "m_toIter"
    rename_i oB oA dA dB F10 N10 h11 tk11 t11 u11 v11 hR F11 N11 e11
    obtain ⟨il, rfl, hnd, hil⟩ := hinner.addrs
    clear hinner F10 N10
    have hp2 : (2 : Int) ^ ((items.size : Int)).toNat = ((2 ^ ws.length : Nat) : Int) := by rw [Int.toNat_natCast, hsz]; simp
    have hp3 : 2 ^ ws.length ≤ 2 ^ 5 := Nat.pow_le_pow_right (by decide) hn
    rw [hp2] at hR
    obtain ⟨P, hP⟩ : ∃ P, P = 2 ^ ws.length := ⟨_, rfl⟩
    rw [← hP] at hR hp3
    have hp4 : (P : Int) ≤ 32 := by have : P ≤ 32 := hp3; omega
    clear hp2
    refine range_inv (n := P) (LeastJ ws W D (L1 + 1 + 1) (L1 + 1) il) (by rfl) F11 (news := (D, lst (il.map Value.ref)) :: (L1 + 1 + 1, oB) :: (L1 + 1, oA) :: entF il (il.map fun _ => (#[], 0))) ?nn hR (small_one (by decide) (by decide) (by omega) (by omega)) (by rw [rangeSize_nat]; omega) ?j0 ?turn ?done
    case nn =>
      have hLg : @LE.le Nat _ g.objs.size L1 := F11.above
      intro p hp
      rcases List.mem_cons.mp hp with rfl | hp
      · exact N11 _ (by k_mem)
      rcases List.mem_cons.mp hp with rfl | hp
      · exact N11 _ (by k_mem)
      rcases List.mem_cons.mp hp with rfl | hp
      · exact N11 _ (by k_mem)
      · obtain ⟨q1, q2⟩ := hil _ (mem_entF hp)
        refine ⟨by rw [entF_const hp]; exact e11 _ _ q2, Nat.ne_of_gt (Nat.lt_trans hCL q1), Heap.get?_none_of_le ?_⟩
        have q3 : @LT.lt Nat _ C p.1 := q1
        have q4 : @LT.lt Nat _ L1 C := hCL
        show @LE.le Nat _ _ p.1
        omega
    case j0 =>
      have lD1 : @LT.lt Nat _ (L1 + 1 + 1) D := l9 (L1 + 1 + 1, _) (by k_mem)
      have hDC0 : @LT.lt Nat _ D C := by assumption
      refine ⟨il.map fun _ => (#[], 0), oB, oA, _, _, _, rfl, rfl, dA, dB, fun p hp b hb => ?_, rfl, rfl, by simp, ?_⟩
      · have q1 : @LT.lt Nat _ C p.1 := (hil _ (mem_entF hp)).1
        simp only [List.mem_cons, List.not_mem_nil, or_false] at hb
        rcases hb with rfl | rfl | rfl <;> exact neGt (by omega)
      · have e : il.length = ws.length + 1 := by rw [← hsz]; simpa using hylen
        unfold foundOf
        rw [← e]
        exact intsLL_nil il
    case done =>
      clear N11 F11 l9
      intro m₁ nw h12 tk12 hJ0
      refine LeastJ.elim hJ0 ?_
      clear hJ0
      rintro vss oA' oB' xA xB tl rfl htl hA hB hoff mW mD hvl hll F12 N12
      walk_at "m_toComp"
      have hlD : h12.IsList D (List.map Value.ref il).toArray := ⟨_, N12.get (by k_mem), rfl, _, rfl⟩
      have e5 : il.length = ws.length + 1 := by rw [← hsz]; simpa using hylen
      refine lc_expr (cl := ?cl5) (fun _ j zs _ => IntsAre zs (minsTo (foundOf ws P) j)) ?k5 (by decide) (by rfl) (by decide) (by rfl) (fun _ _ => IntsAre.nil) (fun _ _ _ _ _ _ h => h) ?_ ?k6
      case k5 => exact rfl
      case k6 => exact fun _ => rfl
      walk_at "m_toIter"
      refine ask_list (by rfl) hlD (by rw [PySem.sizeLine_eq, List.size_toArray]; omega) ?ft ?fd
      case ft =>
        intro gg3 C3 j v2 zs2 m₃ h2 tk2 base2 keepL2 E2 hC3 hv2 hJ2 hyl2 hx2 F2 N2 hE2 hkk2
        have Xb2 : (hd.heap_39 w.params).In base2 := X1.keeps fun b o e => hE2 b o (F12.keep b o e)
        have Tb2 : Top topProg LO mean mg mb base2 := T1.keeps fun b o e => hE2 b o (F12.keep b o e)
        have hv3 : (il.map Value.ref)[j]? = some v2 := by simpa using hv2
        have hj : j < il.length := by
          rcases Nat.lt_or_ge j il.length with q | q
          · exact q
          · rw [List.getElem?_eq_none (by simpa using q)] at hv3; cases hv3
        obtain ⟨a, v, pre, post, s1, s2, s3, _⟩ := entF_split hvl.symm hj hnd
        obtain rfl : v2 = .ref a := by
          rw [List.getElem?_map, s1] at hv3
          exact (Option.some.inj hv3).symm
        have hfa := foundOf_at ws P j (by omega)
        have hia := hll.at s2 hfa
        have hlb : base2.IsList a v.1 := ⟨_, hE2 _ _ (N12 (a, PySem.W.listOf v.1 v.2) (by rw [htl, s3]; simp)).1, rfl, _, rfl⟩
        clear N12 F12 hlD hR
        dsimp only at hE2 hC3
        refine wpAny_tests_one ?_
        walk_at "m_toCmp"
        rename_i l17 h17 F17 N17 l17'
        have hl17 : h17.IsList l17 #[] := ⟨_, N17.get (by k_mem), rfl, _, rfl⟩
        have hla : h17.IsList a v.1.toList.toArray := by rw [Array.toArray_toList]; exact F17.lst hlb
        refine ke_ne_ints (xs := v.1.toList) (ys := []) hla hl17 hia .nil (by ktr_units) ?_
        by_cases hz : (sumsAt ws P j).map Int.ofNat = []
        · rw [decide_eq_true hz]
          k_steps
          refine WEnd.intro (by assumption) (by assumption) (fun p hp => List.Mem.tail _ hp) ?_
          show IntsAre zs2 (minsTo (foundOf ws P) (j + 1))
          rw [mins_turn hfa, List.map_eq_nil_iff.mp hz]
          simpa using hJ2
        · rw [decide_eq_false hz]
          walk_at "m_toMin"
          refine kso_min (ns := (sumsAt ws P j).map Int.ofNat) F17 N17 hla hia (List.length_pos_iff.mpr hz) (by rfl) ?_
          intro h18 M tM tk18 F18 N18 am bm
          obtain ⟨k, rfl, hk⟩ := minOf am bm
          dsimp only
          k_steps
          refine WEnd.intro F18 N18 (fun p hp => List.Mem.tail _ hp) ?_
          show IntsAre (zs2 ++ [_]) (minsTo (foundOf ws P) (j + 1))
          rw [mins_turn hfa, hk]
          exact ksk_snoc hJ2
      case fd =>
        intro gg3 D3 C3 zs2 m₃ h2 tk2 hD3 hDC3 hn3 hd3 he3 hJ2
        refine post_expr F12 N12 hD3 hDC3 hn3 hd3 he3 (fun h4 F4 N4 l4 e4 e4' => ?_)
        dsimp only
        have hJ3 : IntsAre zs2 ((leastOf ws).map Int.ofNat) := by
          have e6 : (foundOf ws P).take (List.map Value.ref il).toArray.size = foundOf ws P := List.take_of_length_le (by rw [foundOf_length]; simp; omega)
          unfold minsTo at hJ2
          rw [e6, hP] at hJ2
          exact hJ2
        k_steps
        refine hret _ _ _ (fun b o e => Fr.keep (by assumption) b o (G2 b o e)) ⟨D3, zs2, rfl, fresh_lo (N4 (D3, lst zs2) (by k_mem)).2.2 G2, N4.get (by k_mem), hJ3⟩
    case turn =>
      have lD1 : @LT.lt Nat _ (L1 + 1 + 1) D := l9 (L1 + 1 + 1, _) (by k_mem)
      have lD2 : @LT.lt Nat _ (L1 + 1) D := l9 (L1 + 1, _) (by k_mem)
      clear N11 F11 l9
      intro I i t m1 nw h12 tk12 oi hi hJ0
      refine LeastJ.elim hJ0 ?_
      clear hJ0
      rintro vss oA' oB' xA xB tl rfl htl hA hB hoff mW mD hvl hll hoi hI F12 N12
      have hI1 : @LT.lt Nat _ D I := hI _ (List.Mem.head _)
      have hilI : ∀ a ∈ il, @LT.lt Nat _ a I := fun a ha => by
        obtain ⟨o, ho⟩ := entF_mem (vss := il.map fun _ => ((#[] : Array Value), 0)) (by simp) ha
        exact hI _ (List.Mem.tail _ (List.Mem.tail _ (List.Mem.tail _ ho)))
      have hilC : ∀ a ∈ il, @LT.lt Nat _ C a := fun a ha => (hil a ha).1
      clear hI
      walk_at "m_toComp"
      rename_i h13 oc F13 N13 d13
      have d14 : oc.data = Data.cell (some (Value.int (i : Int) t)) := by rw [d13, Int.zero_add]
      clear d13 N12 F12
      refine wpAny_Assign_Name ?_
      refine lc_gen (cl := ?cl) 0 (fun _ => ?cl) (fun _ i' ys _ => ys = chosenOf (items.toList.take i') i) ?k1 (by rfl) (by decide) (feOk_plain (by decide) rfl) (fun _ _ => rfl) (fun _ _ _ _ _ _ h => h) ?_ ?k2
      case k1 => exact rfl
      case k2 => exact fun _ => rfl
      walk_at "m_toEnum"
      have hl13 := F13.lst hl
      refine ask_enum rfl (by rfl) (by rfl) (by decide) (fun _ _ _ _ _ _ h => h) (by rfl) hl13 (by rw [PySem.sizeLine_eq]; omega) ?ct ?cd
      case ct =>
        intro gg C1 i' t' v ys m₂ h tk base keepL E' hC hi' hv hJ hyl hk1 hx F N hE hkk
        have cb : base.get? (L1 + 1) = some oc := hE _ _ (N13.get (by k_mem))
        have Xb : (hd.heap_39 w.params).In base := X1.keeps fun b o e => hE b o (F13.keep b o e)
        have Tb : Top topProg LO mean mg mb base := T1.keeps fun b o e => hE b o (F13.keep b o e)
        clear N13 F13 hR
        dsimp only at hE hC
        have hi4 : i' < 5 := by omega
        refine wpAny_tests_one ?_
        k_steps
        · refine WEnd.intro (by assumption) (by assumption) (fun p hp => hp) ?_
          show ys ++ [v] = chosenOf (items.toList.take (i' + 1)) i
          rw [hJ, chosen_turn (l := items.toList) (i := i) (show items.toList[i']? = some v by simpa using hv), if_pos ((bit_iff i i').mp (by assumption))]
        · refine WEnd.intro (by assumption) (by assumption) (fun p hp => hp) ?_
          show ys = chosenOf (items.toList.take (i' + 1)) i
          rw [hJ, chosen_turn (l := items.toList) (i := i) (show items.toList[i']? = some v by simpa using hv), if_neg (fun q => absurd ((bit_iff i i').mpr q) (by assumption))]
      case cd =>
        intro gg D1 C1 ys m' h tk hD hDC hn9 hd he hJ
        refine post_expr F13 N13 hD hDC hn9 hd he (fun h' F14 N14 l14 e14 e14' => ?_)
        have lE1 : @LT.lt Nat _ I D1 := l14 (I, _) (by k_mem)
        have lE2 : @LT.lt Nat _ D D1 := l14 (D, _) (by k_mem)
        have lE3 : @LT.lt Nat _ (L1 + 1 + 1) D1 := l14 (L1 + 1 + 1, _) (by k_mem)
        have lE4 : @LT.lt Nat _ (L1 + 1) D1 := l14 (L1 + 1, _) (by k_mem)
        have htl1 : ∀ p ∈ tl, p.1 ≠ D1 := fun p hp => Nat.ne_of_lt (l14 p (List.Mem.tail _ (List.Mem.tail _ (List.Mem.tail _ (List.Mem.tail _ hp)))))
        have hoff1 : OwnOff tl [D1, D, L1 + 1 + 1, L1 + 1] := fun p hp b hb => by
          rcases List.mem_cons.mp hb with rfl | hb
          · exact htl1 p hp
          · exact hoff p hp b hb
        clear F13 N13 l14 e14 e14' he hn9 hd hR hoff hl13
        dsimp only
        have hys : ys = chosenOf items.toList i := by rw [hJ, List.take_of_length_le (by simp)]
        clear hJ
        walk_at "m_toComp"
        rename_i h15 oc2 F15 N15 d15
        have hwk : WorksL g ys (chosenOf ws i) := by rw [hys]; exact hw.chosen i
        have hyn : ys.length ≤ 5 := by
          have := (chosen_sub ws i).length_le
          rw [hwk.length]; omega
        have hl15 : h15.IsList D1 ys.toArray := ⟨_, N15.get (by k_mem), rfl, _, rfl⟩
        refine lc_assign_gen (cl := ?cl2) 1 (fun C => cellsFrom (C + 1) _ ?cl2) (fun _ i' zs _ => zs = [] ↔ lateOk (chosenOf ws i) i' = true) (by with_unfolding_all rfl) ?k1 (by rfl) (by decide) feOk_cells (fun _ _ => by simp [lateOk]) (fun _ _ _ _ _ _ h => h) ?_ ?k2
        case k1 => exact rfl
        case k2 => exact fun _ => rfl
        walk_at "m_toIter"
        refine ask_cells (fun _ => rfl) (fun _ => rfl) (fun _ => rfl) (fun _ _ _ _ _ _ h => h) (by rfl) hl15 (by rw [PySem.sizeLine_eq, List.size_toArray]; omega) ?et ?ed
        case et =>
          intro gg C2 i' v zs m₂ h tk base keepL ow E' hC hi' hv hJ hyl hmo hod F N hE hkk
          have cb : base.get? (L1 + 1 + 1) = some oc2 := hE _ _ (N15.get (by k_mem))
          have Xb : (hd.heap_39 w.params).In base := X1.keeps fun b o e => hE b o (F15.keep b o e)
          have Tb : Top topProg LO mean mg mb base := T1.keeps fun b o e => hE b o (F15.keep b o e)
          have hwb : WorksL base ys (chosenOf ws i) := hwk.keeps fun b o e => hE b o (F15.keep b o e)
          have hlb : base.IsList D1 ys.toArray := hl15.at fun o e => hE _ o e
          revert hod
          refine WorksL.elim (P := fun v => ow.data = Data.cell (some v) → _) hwb (show ys[i']? = some v by simpa using hv) ?_
          intro wv T t' u b t'' hwv hT hbs hb100 hod
          clear N15 F15 hl15
          dsimp only at hE hC
          refine wpAny_tests_one ?_
          walk_at "m_toComp"
          refine lc_expr (cl := ?cl3) (fun _ j zs _ => IntsAre zs (lensTo (chosenOf ws i) wv.1 j)) ?k3 (by decide) (by rfl) (by decide) (by rfl) (fun _ _ => IntsAre.nil) (fun _ _ _ _ _ _ h => h) ?_ ?k4
          case k3 => exact rfl
          case k4 => exact fun _ => rfl
          walk_at "m_toIter"
          refine ask_list (by rfl) (F.lst hlb) (by rw [PySem.sizeLine_eq, List.size_toArray]; omega) ?ft ?fd
          case ft =>
            intro gg3 C3 j v2 zs2 m₃ h2 tk2 base2 keepL2 E2 hC3 hv2 hJ2 hyl2 hx2 F2 N2 hE2 hkk2
            have cb2 : base2.get? (L1 + 1 + 1) = some oc2 := hE2 _ _ (F.keep _ _ cb)
            have cw2 : base2.get? (C2 + 1) = some ow := hE2 _ _ (N.get hmo)
            have Xb2 : (hd.heap_39 w.params).In base2 := Xb.keeps fun b o e => hE2 b o (F.keep b o e)
            have Tb2 : Top topProg LO mean mg mb base2 := Tb.keeps fun b o e => hE2 b o (F.keep b o e)
            have hT2 := IsTup.keeps hT fun b o e => hE2 b o (F.keep b o e)
            revert hx2
            refine WorksL.elim (P := fun v2 => m₃ _ = some v2 → _) (hwb.keeps fun b o e => hE2 b o (F.keep b o e)) (show ys[j]? = some v2 by simpa using hv2) ?_
            intro w2 T2 t2 u2 b2 t2' hw2 hT3 hbs2 hb2 hx2
            clear N F hT cb
            dsimp only at hE2 hC3
            refine wpAny_tests_one ?_
            k_steps
            · refine WEnd.intro (by assumption) (by assumption) (fun p hp => hp) ?_
              show IntsAre (zs2 ++ [_]) (lensTo (chosenOf ws i) wv.1 (j + 1))
              rw [lensTo_pos hw2 (by assumption), ← hbs2]
              exact ksk_snoc hJ2
            · refine WEnd.intro (by assumption) (by assumption) (fun p hp => hp) ?_
              show IntsAre zs2 (lensTo (chosenOf ws i) wv.1 (j + 1))
              rw [lensTo_neg hw2 (by assumption)]
              exact hJ2
          case fd =>
            intro gg3 D3 C3 zs2 m₃ h2 tk2 hD3 hDC3 hn3 hd3 he3 hJ2
            refine post_expr F N hD3 hDC3 hn3 hd3 he3 (fun h4 F4 N4 l4 e4 e4' => ?_)
            have hsum : (lensTo (chosenOf ws i) wv.1 ys.toArray.size).sum = ((lenSum ((chosenOf ws i).filter fun o => o.1 ≤ wv.1) : Nat) : Int) := lensTo_sum (by rw [List.size_toArray, hwk.length]; exact Nat.le_refl _)
            generalize lensTo (chosenOf ws i) wv.1 ys.toArray.size = ls at hJ2 hsum
            clear F N e4 he3 hn3 hd3
            have e4 := e4'
            dsimp only
            k_steps
            · refine WEnd.intro (by assumption) (by assumption) (fun p hp => List.Mem.tail _ hp) ?_
              show zs ++ [_] = [] ↔ lateOk (chosenOf ws i) (i' + 1) = true
              have q : wv.1 < 1800 * ls.sum := by assumption
              rw [hsum] at q
              rw [late_turn hwv, decide_eq_false (fun z => z q), Bool.and_false]
              simp
            · refine WEnd.intro (by assumption) (by assumption) (fun p hp => List.Mem.tail _ hp) ?_
              show zs = [] ↔ lateOk (chosenOf ws i) (i' + 1) = true
              have q : ¬ wv.1 < 1800 * ls.sum := by assumption
              rw [hsum] at q
              rw [late_turn hwv, decide_eq_true q, Bool.and_true]
              exact hJ
        case ed =>
          intro gg D4 C4 zs m₂ h tk hD hDC hn9 hd he hJ
          refine post_assign F15 N15 ?pa2 hD hDC hn9 hd he (fun h' tk' F16 N16 l16 e16 e16' => ?_) ?pb2 ?pc2
          case pa2 => rfl
          case pb2 => rfl
          case pc2 => rfl
          have hJ2' : zs = [] ↔ inTime (chosenOf ws i) = true := by
            rw [← late_all (j := ys.toArray.size) (by rw [List.size_toArray, hwk.length]; exact Nat.le_refl _)]
            exact hJ
          have lF1 : @LT.lt Nat _ D1 D4 := l16 (D1, _) (by k_mem)
          have lF2 : @LT.lt Nat _ I D4 := l16 (I, _) (by k_mem)
          have htl2 : ∀ p ∈ tl, p.1 ≠ D4 := fun p hp => Nat.ne_of_lt (l16 p (List.Mem.tail _ (List.Mem.tail _ (List.Mem.tail _ (List.Mem.tail _ (List.Mem.tail _ hp))))))
          clear F15 N15 e16 e16' he hn9 hd hl15 hJ
          dsimp only
          walk_at "m_toCmp"
          rename_i l17 h17 F17 N17 l17'
          have hl17 : h17.IsList l17 #[] := ⟨_, N17.get (by k_mem), rfl, _, rfl⟩
          have hl18 : h17.IsList D4 zs.toArray := ⟨_, N17.get (by k_mem), rfl, _, rfl⟩
          by_cases hz : zs = []
          · refine eq_nil_true (by rw [hz] at hl18; exact hl18) hl17 (by ktr_units) ?_
            walk_at "m_toSubT"
            have hkl : ys.length < il.length := by
              have q1 := (chosen_sub ws i).length_le
              rw [← hwk.length] at q1
              have q2 : il.length = items.size + 1 := by simpa using hylen
              omega
            refine entF_elim hvl.symm hkl hnd ?_
            intro a its nn pre post s1 s2 s3 s4 s5 s6 s7 s8 s9
            have ha1 := hilI a s5
            have ha2 := hilC a s5
            have hDC0 : @LT.lt Nat _ D C := by assumption
            obtain ⟨tr, htr⟩ : ∃ tr, tr = pre ++ post := ⟨_, rfl⟩
            have htrm : ∀ p ∈ tr, p.1 ∈ il ∧ p.1 ≠ a := fun p hp => by
              rw [htr] at hp
              rcases List.mem_append.mp hp with hp | hp
              · exact ⟨s8 p hp, s6 p hp⟩
              · exact ⟨s9 p hp, s7 p hp⟩
            have N18 : News g L1 h17 ((D4, lst zs) :: (D1, lst ys) :: (I, oi) :: (D, lst (List.map Value.ref il)) :: (L1 + 1 + 1, oc2) :: (L1 + 1, oc) :: (a, PySem.W.listOf its nn) :: tr) := fun p hp => by
              have q9 := le_split (htl.trans s3) htr
              exact N17 p ((le_c2 (P := fun p => p ∈ _ :: _ :: _ :: _ :: _ :: _ :: _ :: tl) (by k_mem) (le_c2 (by k_mem) (le_c2 (by k_mem) (le_c2 (by k_mem) (le_c2 (by k_mem) (le_c2 (by k_mem) (le_c2 (List.Mem.tail _ (List.Mem.tail _ (List.Mem.tail _ (List.Mem.tail _ (List.Mem.tail _ (List.Mem.tail _ (List.Mem.tail _ q9.1))))))) (fun p hp => (List.Mem.tail _ (List.Mem.tail _ (List.Mem.tail _ (List.Mem.tail _ (List.Mem.tail _ (List.Mem.tail _ (List.Mem.tail _ (q9.2 p hp)))))))))))))))) p hp)
            have hoff2 : OwnOff tr [a, D4, D1, I, D, L1 + 1 + 1, L1 + 1] := fun p hp b hb => by
              have q2 := (htrm p hp).2
              have q3 := hilI _ (htrm p hp).1
              have q4 := hilC _ (htrm p hp).1
              exact le_c2 (P := fun b => @Ne Nat p.1 b) q2 (le_c2 (neLt (Nat.lt_trans q3 lF2)) (le_c2 (neLt (Nat.lt_trans q3 lE1)) (le_c2 (neLt q3) (le_c2 (neGt (Nat.lt_trans hDC0 q4)) (le_c2 (neGt (Nat.lt_trans lD1 (Nat.lt_trans hDC0 q4))) (le_c2 (neGt (Nat.lt_trans lD2 (Nat.lt_trans hDC0 q4))) le_n2)))))) b hb
            clear N17 hoff1 htl1 htl2 l17' hl17 hl18
            dsimp only
            have hlD : h17.IsList D (List.map Value.ref il).toArray := ⟨_, N18.get (by k_mem), rfl, _, rfl⟩
            refine item_listR hlD (by omega) (by rw [List.size_toArray]; omega) (x := .ref a) (by simpa using s1) ?_ (by with_unfolding_all rfl)
            clear hlD
            walk_at "m_toComp"
            have hl18 : h17.IsList D1 ys.toArray := ⟨_, N18.get (by k_mem), rfl, _, rfl⟩
            refine lc_expr (cl := ?cl5) (fun _ j zs _ => IntsAre zs (lensAll (chosenOf ws i) j)) ?k5 (by decide) (by rfl) (by decide) (by rfl) (fun _ _ => IntsAre.nil) (fun _ _ _ _ _ _ h => h) ?_ ?k6
            case k5 => exact rfl
            case k6 => exact fun _ => rfl
            walk_at "m_toIter"
            refine ask_list (by rfl) hl18 (by rw [PySem.sizeLine_eq, List.size_toArray]; omega) ?gt ?gd
            case gt =>
              intro gg3 C3 j v2 zs2 m₃ h2 tk2 base2 keepL2 E2 hC3 hv2 hJ2 hyl2 hx2 F2 N2 hE2 hkk2
              have Xb2 : (hd.heap_39 w.params).In base2 := X1.keeps fun b o e => hE2 b o (F17.keep b o e)
              have Tb2 : Top topProg LO mean mg mb base2 := T1.keeps fun b o e => hE2 b o (F17.keep b o e)
              revert hx2
              refine WorksL.elim (P := fun v2 => m₃ _ = some v2 → _) (hwk.keeps fun b o e => hE2 b o (F17.keep b o e)) (show ys[j]? = some v2 by simpa using hv2) ?_
              intro w2 T2 t2 u2 b2 t2' hw2 hT3 hbs2 hb2 hx2
              clear N18 F17 hoff2 hl18
              dsimp only at hE2 hC3
              refine wpAny_tests_nil ?_
              rw [if_pos rfl]
              k_steps
              refine WEnd.intro (by assumption) (by assumption) (fun p hp => hp) ?_
              show IntsAre (zs2 ++ [_]) (lensAll (chosenOf ws i) (j + 1))
              rw [lensAll_turn hw2, ← hbs2]
              exact ksk_snoc hJ2
            case gd =>
              intro gg3 D3 C3 zs2 m₃ h2 tk2 hD3 hDC3 hn3 hd3 he3 hJ2
              refine post_expr F17 N18 hD3 hDC3 hn3 hd3 he3 (fun h4 F4 N4 l4 e4 e4' => ?_)
              have lG1 : @LT.lt Nat _ D4 D3 := l4 (D4, _) (by k_mem)
              have lG2 : @LT.lt Nat _ I D3 := l4 (I, _) (by k_mem)
              have hsum : (lensAll (chosenOf ws i) ys.toArray.size).sum = ((lenSum (chosenOf ws i) : Nat) : Int) := lensAll_sum (by rw [List.size_toArray, hwk.length]; exact Nat.le_refl _)
              generalize lensAll (chosenOf ws i) ys.toArray.size = ls at hJ2 hsum
              have hoff3 : OwnOff tr [D3, a, D4, D1, I, D, L1 + 1 + 1, L1 + 1] := fun p hp b hb => by
                rcases List.mem_cons.mp hb with rfl | hb
                · have := hilI _ (htrm p hp).1
                  exact neLt (by omega)
                · exact hoff2 p hp b hb
              clear F17 N18 e4 e4' he3 hn3 hd3 l4 hoff2 hl18
              dsimp only
              k_steps
              rename Fr _ _ _ _ => F19
              rename News _ _ _ _ => N19
              rename Tok => ta
              have hst : inTime (chosenOf ws i) = true := hJ2'.mp hz
              have hkl2 : ys.length ≤ ws.length := by
                have := (chosen_sub ws i).length_le
                rw [hwk.length]; exact this
              have hfa := foundOf_at ws i ys.length hkl2
              have hia := hll.at s2 hfa
              have hisz : its.size ≤ i := by
                have q1 := hia.length
                rw [List.length_map, Array.length_toList] at q1
                dsimp only at q1
                have := sumsAt_length ws i ys.length
                omega
              have hga := N19 (a, PySem.W.listOf its nn) (by k_mem)
              refine append_at (hsz := by rw [PySem.sizeLine_eq]; omega) hga.1 fun h6 hs6 ho6 => ?_
              have F20 := F19.change hs6 hga.2.1 hga.2.2
              have N20 : News g L1 h6 ((I, oi) :: (D, lst (List.map Value.ref il)) :: (L1 + 1 + 1, oc2) :: (L1 + 1, oc) :: entF il (vss.set ys.length (its.push (Value.int ls.sum ta), nn + 1))) := fun p hp => by
                have old : ∀ p : Addr × Obj, p ∈ ((D3, lst zs2) :: (D4, lst zs) :: (D1, lst ys) :: (I, oi) :: (D, lst (List.map Value.ref il)) :: (L1 + 1 + 1, oc2) :: (L1 + 1, oc) :: (a, PySem.W.listOf its nn) :: tr) → p.1 ≠ a → h6.get? p.1 = some p.2 ∧ p.1 ≠ L1 ∧ g.get? p.1 = none := fun p hp hn =>
                  ⟨hs6.extBut _ _ hn (N19 p hp).1, (N19 p hp).2⟩
                rw [s4] at hp
                simp only [List.mem_cons, List.mem_append] at hp
                rcases hp with rfl | rfl | rfl | rfl | hp | rfl | hp
                · exact old _ (by k_mem) (neGt ha1)
                · exact old _ (by k_mem) (neLt (Nat.lt_trans hDC0 ha2))
                · exact old _ (by k_mem) (neLt (Nat.lt_trans lD1 (Nat.lt_trans hDC0 ha2)))
                · exact old _ (by k_mem) (neLt (Nat.lt_trans lD2 (Nat.lt_trans hDC0 ha2)))
                · exact old _ (by rw [htr]; simp [hp]) (s6 p hp)
                · exact ⟨ho6, hga.2⟩
                · exact old _ (by rw [htr]; simp [hp]) (s7 p hp)
              clear N19 F19
              k_steps
              refine unr_end1 F20 N20 ((D, lst (List.map Value.ref il)) :: (L1 + 1 + 1, oc2) :: (L1 + 1, oc) :: entF il (vss.set ys.length (its.push (Value.int ls.sum ta), nn + 1))) (by k_mem) (fun p hp => List.Mem.tail _ hp) (fun p hp => ?_) ⟨vss.set ys.length (its.push (Value.int ls.sum ta), nn + 1), oc2, oc, _, _, _, rfl, rfl, d15, d14, fun p hp b hb => ?_, ?_, ?_, by rw [List.length_set]; exact hvl, ?_⟩
              · exact le_c2 (P := fun p => @Ne Nat p.1 I) (neLt hI1) (le_c2 (neLt (Nat.lt_trans lD1 hI1)) (le_c2 (neLt (Nat.lt_trans lD2 hI1)) fun p hp => neLt (hilI _ (mem_entF hp)))) p hp
              · have := hilC _ (mem_entF hp)
                exact le_c2 (P := fun b => @Ne Nat p.1 b) (neGt (Nat.lt_trans hDC0 this)) (le_c2 (neGt (Nat.lt_trans lD1 (Nat.lt_trans hDC0 this))) (le_c2 (neGt (Nat.lt_trans lD2 (Nat.lt_trans hDC0 this))) le_n2)) b hb
              · exact mW
              · exact mD
              · rw [foundOf_succ]
                unfold foundStep
                rw [if_pos hst, ← hwk.length]
                refine hll.modify s2 fun l hl => ?_
                rw [Array.toList_push, List.map_append, hsum]
                exact ksk_snoc hl
          · refine eq_nil_false hl18 hz hl17 (by ktr_units) ?_
            k_steps
            refine unr_end1 F17 N17 ((D, lst (List.map Value.ref il)) :: (L1 + 1 + 1, oc2) :: (L1 + 1, oc) :: tl) (by k_mem) (fun p hp => List.Mem.tail _ (List.Mem.tail _ (List.Mem.tail _ (List.Mem.tail _ hp)))) (fun p hp => ?_) ⟨vss, oc2, oc, _, _, tl, rfl, htl, d15, d14, fun p hp b hb => hoff1 p hp b (List.mem_cons_of_mem _ hb), ?_, ?_, hvl, ?_⟩
            · exact le_c2 (P := fun p => @Ne Nat p.1 I) (neLt hI1) (le_c2 (neLt (Nat.lt_trans lD1 hI1)) (le_c2 (neLt (Nat.lt_trans lD2 hI1)) fun p hp => neLt (hilI _ (mem_entF (htl ▸ hp))))) p hp
            · exact mW
            · exact mD
            · rw [foundOf_succ]
              unfold foundStep
              rw [if_neg (fun q => hz (hJ2'.mpr q))]
              exact hll

end Mine
end

section
open PySem PySem.W PySem.Calls PyProof.Rows
namespace Mine
set_option maxRecDepth 100000
/-- what a tree of questions ends with, if it asks of the first n alone -/
def runB (n : Nat) (lt : Nat → Nat → Bool) {α : Type} : KasT α → Option α
  | .ret a => some a
  | .ask i j k => if i < n ∧ j < n ∧ i ≠ j then runB n lt (k (lt i j)) else none
theorem runB_wp {n : Nat} {lt : Nat → Nat → Bool} {α : Type} {ask : Nat → Nat → (Bool → Shared → Prop) → Shared → Prop} {Q : α → Shared → Prop} {s : Shared} (ha : ∀ i j, i < n → j < n → i ≠ j → ∀ C : Bool → Shared → Prop, C (lt i j) s → ask i j C s) :
    ∀ (t : KasT α) (a : α), runB n lt t = some a → Q a s → t.kasWp ask Q s
  | .ret b, a, e, q => by
    simp only [runB, Option.some.injEq] at e
    subst e; exact q
  | .ask i j k, a, e, q => by
    unfold runB at e
    by_cases hc : i < n ∧ j < n ∧ i ≠ j
    · rw [if_pos hc] at e
      exact ha i j hc.1 hc.2.1 hc.2.2 _ (runB_wp ha (k (lt i j)) a e q)
    · rw [if_neg hc] at e; cases e
theorem runB_congr {n : Nat} {lt lt' : Nat → Nat → Bool} {α : Type} (h : ∀ i j, i < n → j < n → lt i j = lt' i j) : ∀ t : KasT α, runB n lt t = runB n lt' t
  | .ret _ => rfl
  | .ask i j k => by
    unfold runB
    by_cases hc : i < n ∧ j < n ∧ i ≠ j
    · rw [if_pos hc, if_pos hc, h i j hc.1 hc.2.1]
      exact runB_congr h _
    · rw [if_neg hc, if_neg hc]
def okP (n : Nat) (r : List Nat) : Option (Array Nat) → Bool
  | some p => (p.toList.map (fun i => r.getD i 0) == List.range n) && p.toList.isPerm (List.range n)
  | none => false
def chk (n : Nat) (r : List Nat) : Bool := okP n r (runB n (fun i j => Nat.blt (r.getD i 0) (r.getD j 0)) (kas_sort n))
theorem chk2 : ∀ a b : Fin 2, a.val = b.val ∨ chk 2 [a.val, b.val] = true := by decide +kernel
theorem chk3 : ∀ a b : Fin 3, a.val = b.val ∨ ∀ c : Fin 3, a.val = c.val ∨ b.val = c.val ∨ chk 3 [a.val, b.val, c.val] = true := by decide +kernel
theorem chk4 : ∀ a b : Fin 4, a.val = b.val ∨ ∀ c : Fin 4, a.val = c.val ∨ b.val = c.val ∨ ∀ d : Fin 4, a.val = d.val ∨ b.val = d.val ∨ c.val = d.val ∨ chk 4 [a.val, b.val, c.val, d.val] = true := by decide +kernel
theorem chk5 : ∀ a b : Fin 5, a.val = b.val ∨ ∀ c : Fin 5, a.val = c.val ∨ b.val = c.val ∨ ∀ d : Fin 5, a.val = d.val ∨ b.val = d.val ∨ c.val = d.val ∨ ∀ e : Fin 5, a.val = e.val ∨ b.val = e.val ∨ c.val = e.val ∨ d.val = e.val ∨ chk 5 [a.val, b.val, c.val, d.val, e.val] = true := by decide +kernel
theorem chk_all {n : Nat} (h2 : 2 ≤ n) (h5 : n ≤ 5) (r : Nat → Nat) (hr : ∀ i, i < n → r i < n) (hi : ∀ i j, i < n → j < n → i ≠ j → r i ≠ r j) : chk n ((List.range n).map r) = true := by
  have : n = 2 ∨ n = 3 ∨ n = 4 ∨ n = 5 := by omega
  rcases this with rfl | rfl | rfl | rfl
  · have q := chk2 ⟨r 0, hr 0 (by decide)⟩ ⟨r 1, hr 1 (by decide)⟩
    have := hi 0 1 (by decide) (by decide) (by decide)
    simp only [this, false_or] at q
    exact q
  · have q := chk3 ⟨r 0, hr 0 (by decide)⟩ ⟨r 1, hr 1 (by decide)⟩
    have h01 := hi 0 1 (by decide) (by decide) (by decide)
    have h02 := hi 0 2 (by decide) (by decide) (by decide)
    have h12 := hi 1 2 (by decide) (by decide) (by decide)
    simp only [h01, false_or] at q
    have q := q ⟨r 2, hr 2 (by decide)⟩
    simp only [h02, h12, false_or] at q
    exact q
  · have q := chk4 ⟨r 0, hr 0 (by decide)⟩ ⟨r 1, hr 1 (by decide)⟩
    have h01 := hi 0 1 (by decide) (by decide) (by decide)
    have h02 := hi 0 2 (by decide) (by decide) (by decide)
    have h12 := hi 1 2 (by decide) (by decide) (by decide)
    have h03 := hi 0 3 (by decide) (by decide) (by decide)
    have h13 := hi 1 3 (by decide) (by decide) (by decide)
    have h23 := hi 2 3 (by decide) (by decide) (by decide)
    simp only [h01, false_or] at q
    have q := q ⟨r 2, hr 2 (by decide)⟩
    simp only [h02, h12, false_or] at q
    have q := q ⟨r 3, hr 3 (by decide)⟩
    simp only [h03, h13, h23, false_or] at q
    exact q
  · have q := chk5 ⟨r 0, hr 0 (by decide)⟩ ⟨r 1, hr 1 (by decide)⟩
    have h01 := hi 0 1 (by decide) (by decide) (by decide)
    have h02 := hi 0 2 (by decide) (by decide) (by decide)
    have h12 := hi 1 2 (by decide) (by decide) (by decide)
    have h03 := hi 0 3 (by decide) (by decide) (by decide)
    have h13 := hi 1 3 (by decide) (by decide) (by decide)
    have h23 := hi 2 3 (by decide) (by decide) (by decide)
    have h04 := hi 0 4 (by decide) (by decide) (by decide)
    have h14 := hi 1 4 (by decide) (by decide) (by decide)
    have h24 := hi 2 4 (by decide) (by decide) (by decide)
    have h34 := hi 3 4 (by decide) (by decide) (by decide)
    simp only [h01, false_or] at q
    have q := q ⟨r 2, hr 2 (by decide)⟩
    simp only [h02, h12, false_or] at q
    have q := q ⟨r 3, hr 3 (by decide)⟩
    simp only [h03, h13, h23, false_or] at q
    have q := q ⟨r 4, hr 4 (by decide)⟩
    simp only [h04, h14, h24, h34, false_or] at q
    exact q
theorem filter_len_lt {α : Type} {p q : α → Bool} : ∀ {l : List α} {x : α}, (∀ y ∈ l, p y = true → q y = true) → x ∈ l → q x = true → p x = false → (l.filter p).length < (l.filter q).length
  | y :: l, x, h, hx, hq, hp => by
    have ih : ∀ {l : List α}, (∀ y ∈ l, p y = true → q y = true) → (l.filter p).length ≤ (l.filter q).length := by
      intro l
      induction l with
      | nil => intro _; simp
      | cons z l ih =>
        intro h
        have := ih fun y hy => h y (List.mem_cons_of_mem _ hy)
        have hz := h z List.mem_cons_self
        rw [List.filter_cons, List.filter_cons]
        cases e1 : p z <;> cases e2 : q z <;> simp_all <;> omega
    rw [List.filter_cons, List.filter_cons]
    rcases List.mem_cons.mp hx with rfl | hx
    · have := ih fun z hz => h z (List.mem_cons_of_mem _ hz)
      rw [hp, hq]
      simp; omega
    · have := filter_len_lt (fun z hz => h z (List.mem_cons_of_mem _ hz)) hx hq hp
      have hy := h y List.mem_cons_self
      cases e1 : p y <;> cases e2 : q y <;> simp_all <;> omega
/-- the sort's tree of questions lays any order of its own -/
theorem sort_run {n : Nat} (h2 : 2 ≤ n) (h5 : n ≤ 5) (lt : Nat → Nat → Bool) (irr : ∀ i, i < n → lt i i = false) (tr : ∀ i j k, i < n → j < n → k < n → lt i j = true → lt j k = true → lt i k = true)
    (tot : ∀ i j, i < n → j < n → i ≠ j → lt i j = true ∨ lt j i = true) :
    ∃ p : Array Nat, runB n lt (kas_sort n) = some p ∧ p.toList.Perm (List.range n) ∧ p.toList.Pairwise fun i j => lt i j = true := by
  obtain ⟨r, hr⟩ : ∃ r : Nat → Nat, ∀ i, r i = ((List.range n).filter fun j => lt j i).length := ⟨_, fun _ => rfl⟩
  have mono : ∀ i j, i < n → j < n → lt i j = true → r i < r j := fun i j hi hj h => by
    rw [hr, hr]
    exact filter_len_lt (fun k hk hki => tr k i j (List.mem_range.mp hk) hi hj hki h) (List.mem_range.mpr hi) h (irr i hi)
  have iff : ∀ i j, i < n → j < n → lt i j = Nat.blt (r i) (r j) := fun i j hi hj => by
    cases e : lt i j with
    | true => exact (Nat.blt_eq.mpr (mono i j hi hj e)).symm
    | false =>
      refine (Bool.eq_false_iff.mpr fun q => ?_).symm
      have q := Nat.blt_eq.mp q
      by_cases h : i = j
      · subst h; omega
      · rcases tot i j hi hj h with t | t
        · rw [t] at e; cases e
        · have := mono j i hj hi t; omega
  have bound : ∀ i, i < n → r i < n := fun i hi => by
    rw [hr]
    have := filter_len_lt (p := fun j => lt j i) (q := fun _ => true) (l := List.range n) (fun _ _ _ => rfl) (List.mem_range.mpr hi) rfl (irr i hi)
    rw [List.filter_eq_self.mpr (fun _ _ => rfl), List.length_range] at this
    exact this
  have inj : ∀ i j, i < n → j < n → i ≠ j → r i ≠ r j := fun i j hi hj h => by
    rcases tot i j hi hj h with t | t
    · exact Nat.ne_of_lt (mono i j hi hj t)
    · exact Nat.ne_of_gt (mono j i hj hi t)
  have c := chk_all h2 h5 r bound inj
  have gd : ∀ i, i < n → ((List.range n).map r).getD i 0 = r i := fun i hi => by simp [hi]
  unfold chk at c
  rw [← runB_congr (lt := lt) (fun i j hi hj => by rw [gd i hi, gd j hj]; exact iff i j hi hj)] at c
  cases e : runB n lt (kas_sort n) with
  | none => rw [e] at c; cases c
  | some p =>
    rw [e] at c
    simp only [okP, Bool.and_eq_true, beq_iff_eq] at c
    have hp := List.isPerm_iff.mp c.2
    refine ⟨p, rfl, hp, ?_⟩
    have lt_n : ∀ x ∈ p.toList, x < n := fun x hx => List.mem_range.mp (hp.subset hx)
    have c1 : p.toList.map r = List.range n := by
      rw [← c.1]
      exact List.map_congr_left fun x hx => (gd x (lt_n x hx)).symm
    have pw : (p.toList.map r).Pairwise (· < ·) := by rw [c1]; exact List.pairwise_lt_range
    have pw2 := List.pairwise_map.mp pw
    refine pw2.imp_of_mem fun {a b} ha hb h => ?_
    rw [iff a b (lt_n a ha) (lt_n b hb)]
    exact Nat.blt_eq.mpr h
/-- what is known of one mail that is sent: its place, when it is due, its octets -/
abbrev Ent := Int × Int × Array UInt8
abbrev lexlt (a b : Ent) : Prop := a.2.1 < b.2.1 ∨ (a.2.1 = b.2.1 ∧ a.1 < b.1)
inductive All2 {α β : Type} (R : α → β → Prop) : List α → List β → Prop
  | nil : All2 R [] []
  | cons {a : α} {b : β} {l : List α} {m : List β} : R a b → All2 R l m → All2 R (a :: l) (b :: m)
section
variable {α β : Type} {R S : α → β → Prop}
theorem All2.length {l : List α} {m : List β} (x : All2 R l m) : l.length = m.length := by
  induction x with
  | nil => rfl
  | cons _ _ ih => simp [ih]
theorem All2.mono {l : List α} {m : List β} (x : All2 R l m) (h : ∀ a b, R a b → S a b) : All2 S l m := by
  induction x with
  | nil => exact .nil
  | cons a _ ih => exact .cons (h _ _ a) ih
theorem All2.at {l : List α} {m : List β} (x : All2 R l m) : ∀ {i : Nat} {b : β}, m[i]? = some b → ∃ a, l[i]? = some a ∧ R a b := by
  induction x with
  | nil => intro i b e; simp at e
  | cons a _ ih =>
    intro i b e
    cases i with
    | zero => simp at e; subst e; exact ⟨_, rfl, a⟩
    | succ i => simp at e; simpa using ih e
theorem All2.at' {l : List α} {m : List β} (x : All2 R l m) : ∀ {i : Nat} {a : α}, l[i]? = some a → ∃ b, m[i]? = some b ∧ R a b := by
  induction x with
  | nil => intro i b e; simp at e
  | cons a _ ih =>
    intro i b e
    cases i with
    | zero => simp at e; subst e; exact ⟨_, rfl, a⟩
    | succ i => simp at e; simpa using ih e
theorem All2.append {l l' : List α} {m m' : List β} (x : All2 R l m) (y : All2 R l' m') : All2 R (l ++ l') (m ++ m') := by
  induction x with
  | nil => exact y
  | cons a _ ih => exact .cons a ih
theorem All2.take {l : List α} {m : List β} (x : All2 R l m) : ∀ k, All2 R (l.take k) (m.take k) := by
  induction x with
  | nil => intro k; simp; exact .nil
  | cons a _ ih =>
    intro k
    cases k with
    | zero => exact .nil
    | succ k => exact .cons a (ih k)
theorem All2.drop {l : List α} {m : List β} (x : All2 R l m) : ∀ k, All2 R (l.drop k) (m.drop k) := by
  induction x with
  | nil => intro k; simp; exact .nil
  | cons a b ih =>
    intro k
    cases k with
    | zero => exact .cons a b
    | succ k => exact ih k
theorem All2.pick {l : List α} {m : List β} {d : α} {e : β} (x : All2 R l m) (is : List Nat) (h : ∀ i ∈ is, i < m.length) : All2 R (is.map fun i => l.getD i d) (is.map fun i => m.getD i e) := by
  induction is with
  | nil => exact .nil
  | cons i is ih =>
    refine .cons ?_ (ih fun j hj => h j (List.mem_cons_of_mem _ hj))
    have hi := h i List.mem_cons_self
    obtain ⟨a, e1, r⟩ := x.at (List.getElem?_eq_getElem hi)
    show R (l.getD i d) (m.getD i e)
    rw [List.getD_eq_getElem?_getD, List.getD_eq_getElem?_getD, e1, List.getElem?_eq_getElem hi]
    exact r
end
abbrev tupO (vs : Array Value) : Obj := { cls := .type "tuple", data := .seq vs }
def RowIn (tl : List (Addr × Obj)) (v : Value) (e : Ent) : Prop := ∃ a t1 t2 t3, v = .ref a ∧ (a, tupO #[.int e.1 t1, .int e.2.1 t2, .bytes e.2.2 t3]) ∈ tl
def WorkIn (tl : List (Addr × Obj)) (v : Value) (e : Ent) : Prop := ∃ a t1 t2 t3, v = .ref a ∧ (a, tupO #[.int e.2.1 t2, .int e.1 t1, .bytes e.2.2 t3]) ∈ tl
theorem RowIn.mono {tl tl' : List (Addr × Obj)} {v : Value} {e : Ent} (h : RowIn tl v e) (hs : ∀ p ∈ tl, p ∈ tl') : RowIn tl' v e := by
  obtain ⟨a, t1, t2, t3, e, h⟩ := h; exact ⟨a, t1, t2, t3, e, hs _ h⟩
theorem WorkIn.mono {tl tl' : List (Addr × Obj)} {v : Value} {e : Ent} (h : WorkIn tl v e) (hs : ∀ p ∈ tl, p ∈ tl') : WorkIn tl' v e := by
  obtain ⟨a, t1, t2, t3, e, h⟩ := h; exact ⟨a, t1, t2, t3, e, hs _ h⟩
section
variable {prog : Program} {w : World} {A : Around} {E : Value → Shared → Prop} {s : Shared} {h₀ : Heap} {L : Addr} {m : Str → Option Value} {news tl : List (Addr × Obj)}
theorem works_tups {h : Heap} (N : News h₀ L h news) (sub : ∀ p ∈ tl, p ∈ news) {vs : List Value} {es : List Ent} (x : All2 (WorkIn tl) vs es) : ∃ fs : List Value, KatTups h vs fs ∧ fs.length = vs.length ∧ ∀ v ∈ fs, ∃ n t, v = Value.int n t := by
  induction x with
  | nil => exact ⟨[], .nil, rfl, fun _ h => nomatch h⟩
  | cons a _ ih =>
    obtain ⟨fs, k, l, i⟩ := ih
    obtain ⟨a, t1, t2, t3, rfl, hm⟩ := a
    refine ⟨_ :: fs, KatTups.cons (N _ (sub _ hm)).1 rfl rfl (by rfl) k, by simp [l], fun v hv => ?_⟩
    rcases List.mem_cons.mp hv with rfl | hv
    · exact ⟨_, _, rfl⟩
    · exact i v hv
theorem works_lt (N : News h₀ L s.heap news) (sub : ∀ p ∈ tl, p ∈ news) {u v : Value} {d e : Ent} (hu : WorkIn tl u d) (hv : WorkIn tl v e) (hne : (d.2.1, d.1) ≠ (e.2.1, e.1)) {Q : Bool → Shared → Prop} (h : Q (decide (lexlt d e)) s) :
    wpAny (model prog w) A (keyLt' (tuples' true) u v) Q E s := by
  obtain ⟨a, t1, t2, t3, rfl, hm⟩ := hu
  obtain ⟨a', t1', t2', t3', rfl, hm'⟩ := hv
  refine kat_lt (N _ (sub _ hm)).1 rfl (N _ (sub _ hm')).1 rfl ?_
  refine kat_cons (wpAny_eqBool_int ?_)
  by_cases h1 : d.2.1 = e.2.1
  · rw [show (d.2.1 == e.2.1) = true by simpa using h1]
    refine kat_yes (kat_cons (wpAny_eqBool_int ?_))
    have h2 : d.1 ≠ e.1 := fun q => hne (by rw [h1, q])
    rw [show (d.1 == e.1) = false by simpa using h2]
    refine kat_no ?_
    refine kat_one _ _ ?_
    have hd : decide (lexlt d e) = decide (d.1 < e.1) := by
      unfold lexlt
      simp [h1]
    rw [hd] at h
    exact lt_int h
  · rw [show (d.2.1 == e.2.1) = false by simpa using h1]
    refine kat_no ?_
    have hd : decide (lexlt d e) = decide (d.2.1 < e.2.1) := by
      unfold lexlt
      simp [h1]
    rw [hd] at h
    exact oneLt_int h
theorem sorted_small {l : Addr} {vs : List Value} {Q : Value → Shared → Prop} (F : Fr h₀ L s.heap m) (N : News h₀ L s.heap news) (hl : s.heap.IsList l vs.toArray) (h2 : vs.length < 2)
    (h : ∀ D c h', Fr h₀ L h' m → News h₀ L h' ((D, PySem.W.listOf vs.toArray c) :: news) → (∀ q ∈ news, q.1 < D) → Q (.ref D) { s with heap := h' }) :
    wpAny (model prog w) A (call (.builtin "sorted") [.ref l]) Q E s := by
  refine Calls.call_function_entry kind_sorted plain_sorted entry_sorted (args_sorted1 _) ?_
  unfold Builtin.«sorted»
  refine wpAny_bind (m := checkCount "sorted" 1 1 _) (wpAny_pure ?_)
  refine wpAny_bind (collect_list hl ?_ (by rw [sizeLine_eq]; omega))
  refine wpAny_bind (wpAny_newList ?_ (by rw [sizeLine_eq]; omega))
  obtain ⟨g, hg⟩ : ∃ g, g = (s.heap.push (seqObj "list" #[] 0)).update s.heap.objs.size (Obj.mapSeq (· ++ vs.toArray)) := ⟨_, rfl⟩
  have hgz : g.objs.size = s.heap.objs.size + 1 := by rw [hg, Heap.size_update, size_push']
  have keep : ∀ b o, s.heap.get? b = some o → g.get? b = some o := fun b o q => by
    have hlt := Heap.lt_size q
    rw [hg, Heap.get?_update_ne _ _ _ _ (Nat.ne_of_lt hlt), Heap.get?_push_ne _ _ _ (Nat.ne_of_lt hlt)]
    exact q
  rw [← hg]
  obtain ⟨a, ha⟩ : ∃ a, a = g.objs.size := ⟨_, rfl⟩
  have haz : a = s.heap.objs.size + 1 := ha.trans hgz
  have hL : @LT.lt Nat _ L s.heap.objs.size := F.ns.lt
  show wpAny _ _ _ _ _ { s with heap := g.push (seqObj "list" vs.toArray 0) }
  rw [← ha]
  have ho : (g.push (seqObj "list" vs.toArray 0)).get? a = some (seqObj "list" vs.toArray 0) := by rw [ha]; exact Heap.get?_push_size _ rfl
  refine wpAny_bind (wpAny_holding (wpAny_call_entry slot_list_sort ⟨_, ho, rfl⟩ entry_list_sort ?body (args_list_sort _)))
  case body =>
    rw [list_sort_plain]
    refine wpAny_bind (listItems_at ho rfl ?_)
    refine wpAny_bind (listUpdate_at ho rfl ?_ (by rw [List.size_toArray, sizeLine_eq]; omega) (Nat.zero_le _))
    obtain ⟨g2, hg2⟩ : ∃ g2, g2 = (g.push (seqObj "list" vs.toArray 0)).update a (Obj.mapSeq fun _ => (#[] : Array Value)) := ⟨_, rfl⟩
    obtain ⟨e1, ho1⟩ : ∃ e1, g2.get? a = some (seqObj "list" #[] e1) := by rw [hg2]; exact ⟨_, get?_update_seq ho fun _ => #[]⟩
    have keep2 : ∀ b o, s.heap.get? b = some o → g2.get? b = some o := fun b o q => by
      have hlt : @LT.lt Nat _ b s.heap.objs.size := Heap.lt_size q
      have hne : @Ne Nat b a := by omega
      have hne2 : @Ne Nat b g.objs.size := by rw [hgz]; omega
      rw [hg2, Heap.get?_update_ne _ _ _ _ hne, Heap.get?_push_ne _ _ _ hne2]
      exact keep b o q
    rw [← hg2]
    refine wpAny_bind (seqEpoch_at ho1 rfl ?_)
    refine wpAny_bind (wpAny_newTuple ?_ (by show vs.length ≤ _; rw [sizeLine_eq]; omega))
    refine wpAny_bind (wpAny_newList ?_ (Nat.zero_le _))
    refine wpAny_holding ?_
    obtain ⟨g3, hg3⟩ : ∃ g3, g3 = (g2.push (seqObj "tuple" vs.toArray 0)).push (seqObj "list" #[] 0) := ⟨_, rfl⟩
    have ho3 : g3.get? a = some (seqObj "list" #[] e1) := by rw [hg3]; exact Heap.get?_push_of_some _ (Heap.get?_push_of_some _ ho1)
    have keep3 : ∀ b o, s.heap.get? b = some o → g3.get? b = some o := fun b o q => by rw [hg3]; exact Heap.get?_push_of_some _ (Heap.get?_push_of_some _ (keep2 b o q))
    show wpAny (model prog w) _ _ _ _ { s with heap := (g2.push (seqObj "tuple" vs.toArray 0)).push (seqObj "list" #[] 0) }
    rw [← hg3]
    have hs2 : vs.toArray.size < 2 := by rw [List.size_toArray]; exact h2
    dsimp only
    rw [if_pos hs2, if_pos hs2]
    refine wpAny_bind (wpAny_pure ?_)
    rw [StateT.run_pure]
    refine wpAny_bind (wpAny_pure ?_)
    dsimp only
    have hout : (arrOf (SortSt.mk' general' (vs.toArray.zip vs.toArray) #[] 7 none)).map (·.2) = vs.toArray := by
      show (vs.toArray.zip vs.toArray).map (·.2) = vs.toArray
      apply Array.toList_inj.mp
      simp [List.map_snd_zip]
    rw [hout]
    refine wpAny_bind (seqEpoch_at ho3 rfl ?_)
    refine wpAny_bind (listUpdate_at ho3 rfl ?_ (Nat.zero_le _) (by rw [List.size_toArray, sizeLine_eq]; omega))
    obtain ⟨e4, ho4⟩ : ∃ e4, (g3.update a (Obj.mapSeq fun _ => vs.toArray)).get? a = some (seqObj "list" vs.toArray e4) := ⟨_, get?_update_seq ho3 fun _ => vs.toArray⟩
    have keep4 : ∀ b o, s.heap.get? b = some o → (g3.update a (Obj.mapSeq fun _ => vs.toArray)).get? b = some o := fun b o q => by
      have hlt : @LT.lt Nat _ b s.heap.objs.size := Heap.lt_size q
      have hne : @Ne Nat b a := by omega
      rw [Heap.get?_update_ne _ _ _ _ hne]
      exact keep3 b o q
    simp only [bne_self_eq_false, Bool.false_eq_true, if_false]
    refine wpAny_pure ⟨_, rfl, wpAny_pure ⟨_, rfl, h a e4 _ (F.kept keep4) (fun p hp => ?_) (fun q hq => ?_)⟩⟩
    · rcases List.mem_cons.mp hp with rfl | hp
      · have : @Ne Nat a L := by omega
        exact ⟨ho4, this, Heap.get?_none_of_le (by have := F.above; show @LE.le Nat _ _ a; have q : @LE.le Nat _ h₀.objs.size L := this; omega)⟩
      · exact N.grown keep4 p hp
    · have : @LT.lt Nat _ q.1 s.heap.objs.size := Heap.lt_size (N q hq).1
      show @LT.lt Nat _ q.1 a
      omega
/-- sorted of at most five such tuples -/
theorem sorted_works {l : Addr} {vs : List Value} {es : List Ent} {Q : Value → Shared → Prop} (F : Fr h₀ L s.heap m) (N : News h₀ L s.heap news) (sub : ∀ p ∈ tl, p ∈ news) (hl : s.heap.IsList l vs.toArray)
    (x : All2 (WorkIn tl) vs es) (h5 : es.length ≤ 5) (hd : es.Pairwise fun a b => a.1 < b.1)
    (h : ∀ D vs' es' c h', Fr h₀ L h' m → News h₀ L h' ((D, PySem.W.listOf vs'.toArray c) :: news) → (∀ q ∈ news, q.1 < D) → All2 (WorkIn tl) vs' es' → es'.Perm es → es'.Pairwise lexlt → Q (.ref D) { s with heap := h' }) :
    wpAny (model prog w) A (call (.builtin "sorted") [.ref l]) Q E s := by
  have hlen := x.length
  by_cases h2 : vs.length < 2
  · refine sorted_small F N hl h2 fun D c h' F' N' l1 => h D vs es c h' F' N' l1 x (List.Perm.refl _) ?_
    match es, hlen, h2 with
    | [], _, _ => exact .nil
    | [_], _, _ => exact List.pairwise_singleton _ _
    | _ :: _ :: _, e, h2 => simp at e; omega
  · refine kat_sorted F N hl (by omega) (by omega) fun D e1 h' F' N' l1 => ?_
    have sub' : ∀ p ∈ tl, p ∈ ((D, seqObj "list" #[] e1) :: news) := fun p hp => List.mem_cons_of_mem _ (sub p hp)
    obtain ⟨fs, k1, k2, k3⟩ := works_tups N' sub' x
    refine kat_kind (T := .type "int") k1 (by omega) (fun v hv => ?_) rfl ?_
    · obtain ⟨n, t, rfl⟩ := k3 v hv
      exact Looks.now
    · have e0 : (Value.type "int" != Value.type "tuple") = true := by rfl
      rw [e0]
      have dist : ∀ i j, i < vs.length → j < vs.length → i ≠ j → (es.getD i (0, 0, #[])).1 ≠ (es.getD j (0, 0, #[])).1 := fun i j hi hj hne => by
        have pw := List.pairwise_iff_getElem.mp hd
        rw [List.getD_eq_getElem?_getD, List.getD_eq_getElem?_getD, List.getElem?_eq_getElem (by omega), List.getElem?_eq_getElem (by omega)]
        simp only [Option.getD_some]
        rcases Nat.lt_or_gt_of_ne hne with q | q
        · have := pw i j (by omega) (by omega) q; omega
        · have := pw j i (by omega) (by omega) q; omega
      obtain ⟨p, hp, hperm, hpw⟩ := sort_run (n := vs.length) (by omega) (by omega) (fun i j => decide (lexlt (es.getD i (0, 0, #[])) (es.getD j (0, 0, #[])))) (fun i _ => decide_eq_false (by unfold lexlt; omega))
        (fun i j k _ _ _ a b => by
          have a := of_decide_eq_true a
          have b := of_decide_eq_true b
          refine decide_eq_true ?_
          unfold lexlt at *
          omega)
        (fun i j hi hj hne => by
          have := dist i j hi hj hne
          have q : lexlt (es.getD i (0, 0, #[])) (es.getD j (0, 0, #[])) ∨ lexlt (es.getD j (0, 0, #[])) (es.getD i (0, 0, #[])) := by unfold lexlt; omega
          rcases q with q | q
          · exact .inl (decide_eq_true q)
          · exact .inr (decide_eq_true q))
      have lt_n : ∀ i ∈ p.toList, i < vs.length := fun i hi => List.mem_range.mp (hperm.subset hi)
      refine runB_wp (fun i j hi hj hij C hC => ?_) _ p hp ⟨_, _, F', N', UpdF.head (fun q hq => Nat.ne_of_lt (l1 q hq)), fun h2 c F2 N2 => ?_⟩
      · unfold kas_ask
        have vi : ∀ i, i < vs.length → WorkIn tl (vs.getD i Value.none) (es.getD i (0, 0, #[])) := fun i hi => by
          obtain ⟨a, e1, r⟩ := x.at (List.getElem?_eq_getElem (show i < es.length by omega))
          rw [List.getD_eq_getElem?_getD, List.getD_eq_getElem?_getD, e1, List.getElem?_eq_getElem (by omega)]
          exact r
        refine works_lt N' sub' (vi i hi) (vi j hj) (fun q => dist i j hi hj hij (by injection q)) hC
      · refine h D (p.toList.map fun i => vs.getD i Value.none) (p.toList.map fun i => es.getD i (0, 0, #[])) c h2 F2 N2 l1 (x.pick p.toList (fun i hi => by have := lt_n i hi; omega)) ?_ ?_
        · have q := hperm.map (fun i => es.getD i (0, 0, #[]))
          refine q.trans (List.Perm.of_eq ?_)
          refine List.ext_getElem? fun i => ?_
          rw [List.getElem?_map]
          by_cases hi : i < vs.length
          · rw [List.getElem?_range hi]
            simp [List.getElem?_eq_getElem (show i < es.length by omega)]
          · rw [List.getElem?_eq_none (by simp; omega), List.getElem?_eq_none (by omega)]
            rfl
        · exact List.pairwise_map.mpr (hpw.imp fun q => of_decide_eq_true q)
end
end Mine
end

section
open PySem PySem.W PySem.Calls PyProof.Rows
namespace Mine
set_option maxRecDepth 100000
theorem row_step {es rs : List Ent} {x : Ent} {p : Nat} (hp : rs.Perm es) (hw : rs.Pairwise lexlt) (hx : ∀ e ∈ es, e.1 < x.1) (h1 : ∀ i : Nat, i < p → ∀ e, rs[i]? = some e → e.2.1 ≤ x.2.1) (h2 : ∀ i : Nat, p ≤ i → ∀ e, rs[i]? = some e → x.2.1 < e.2.1) :
    (rs.take p ++ x :: rs.drop p).Perm (es ++ [x]) ∧ (rs.take p ++ x :: rs.drop p).Pairwise lexlt := by
  constructor
  · refine List.perm_middle.trans ?_
    rw [List.take_append_drop]
    exact (List.Perm.cons x hp).trans (List.perm_append_singleton x es).symm
  · have hw' := hw
    rw [← List.take_append_drop p rs] at hw'
    obtain ⟨w1, w2, w3⟩ := List.pairwise_append.mp hw'
    have a1 : ∀ e ∈ rs.take p, lexlt e x := fun e he => by
      obtain ⟨i, hi⟩ := List.mem_iff_getElem?.mp he
      have hip : i < p := by
        rcases Nat.lt_or_ge i p with q | q
        · exact q
        · rw [List.getElem?_eq_none (by rw [List.length_take]; omega)] at hi; cases hi
      rw [List.getElem?_take_of_lt hip] at hi
      have q1 := h1 i hip e hi
      have q2 := hx e (hp.subset (List.mem_of_mem_take he))
      unfold lexlt
      omega
    have a2 : ∀ e ∈ rs.drop p, lexlt x e := fun e he => by
      obtain ⟨i, hi⟩ := List.mem_iff_getElem?.mp he
      rw [List.getElem?_drop] at hi
      have q1 := h2 (p + i) (by omega) e hi
      unfold lexlt
      omega
    refine List.pairwise_append.mpr ⟨w1, List.pairwise_cons.mpr ⟨a2, w2⟩, fun a ha b hb => ?_⟩
    rcases List.mem_cons.mp hb with rfl | hb
    · exact a1 a ha
    · exact w3 a ha b hb
theorem lex_irr {a b : Ent} (h : lexlt a b) (h' : lexlt b a) : False := by unfold lexlt at *; omega
theorem lex_uniq : ∀ {a b : List Ent}, a.Perm b → a.Pairwise lexlt → b.Pairwise lexlt → a = b
  | [], b, h, _, _ => (List.nil_perm.mp h).symm
  | x :: a, [], h, _, _ => by have := h.length_eq; simp at this
  | x :: a, y :: b, h, h1, h2 => by
    obtain ⟨p1, p2⟩ := List.pairwise_cons.mp h1
    obtain ⟨q1, q2⟩ := List.pairwise_cons.mp h2
    have e : x = y := by
      rcases List.mem_cons.mp (h.subset List.mem_cons_self) with e | hx
      · exact e
      · rcases List.mem_cons.mp (h.symm.subset List.mem_cons_self) with e | hy
        · exact e.symm
        · exact (lex_irr (p1 y hy) (q1 x hx)).elim
    subst e
    rw [lex_uniq (List.Perm.cons_inv h) p2 q2]
theorem sorted_due {rs : List Ent} (h : rs.Pairwise lexlt) : Sorted (rs.map (·.2.1)) := by
  intro i j hij hj
  rw [List.length_map] at hj
  rcases Nat.lt_or_eq_of_le hij with q | rfl
  · have := List.pairwise_iff_getElem.mp h i j (by omega) hj q
    rw [List.getD_eq_getElem?_getD, List.getD_eq_getElem?_getD, List.getElem?_eq_getElem (by rw [List.length_map]; omega), List.getElem?_eq_getElem (by rw [List.length_map]; omega)]
    simp only [Option.getD_some, List.getElem_map]
    unfold lexlt at this
    omega
  · exact Int.le_refl _
theorem rowAt_of {h : Heap} {tl : List (Addr × Obj)} (N : ∀ p ∈ tl, h.get? p.1 = some p.2) {items : Array Value} {rs : List Ent} (x : All2 (RowIn tl) items.toList rs) : RowAt h items (rs.map (·.2.1)) := by
  refine ⟨by rw [List.length_map, ← x.length, Array.length_toList], fun i hi => ?_⟩
  rw [List.length_map] at hi
  obtain ⟨v, e, a, t1, t2, t3, rfl, hm⟩ := x.at (List.getElem?_eq_getElem hi)
  refine ⟨a, .int rs[i].1 t1, t2, .bytes rs[i].2.2 t3, by simpa using e, ?_⟩
  rw [List.getD_eq_getElem?_getD, List.getElem?_map, List.getElem?_eq_getElem hi]
  exact ⟨_, N _ hm, rfl, _, rfl⟩
theorem worksL_of {h : Heap} {tl : List (Addr × Obj)} (N : ∀ p ∈ tl, h.get? p.1 = some p.2) {vs : List Value} {es : List Ent} (x : All2 (WorkIn tl) vs es) (h100 : ∀ e ∈ es, e.2.2.size ≤ 100) : WorksL h vs (es.map fun e => (e.2.1, e.2.2.size)) := by
  induction x with
  | nil => exact .nil
  | cons a _ ih =>
    obtain ⟨a, t1, t2, t3, rfl, hm⟩ := a
    refine .cons ⟨a, t2, _, _, t3, rfl, ⟨_, N _ hm, rfl, _, rfl⟩, rfl, h100 _ List.mem_cons_self⟩ (ih fun e he => h100 e (List.mem_cons_of_mem _ he))
/-- the turn's end over enumerate, by the addresses -/
theorem unr_endI {h₀ : Heap} {L I : Addr} {oe oi : Obj} {rest : (Str → Option Value) → List (Addr × Obj) → Prop} {s₁ : Shared} {h' : Heap} {tk : Nat} {m' : Str → Option Value} {all : List (Addr × Obj)}
    (F : Fr h₀ L h' m') (N : News h₀ L h' all) (news' : List (Addr × Obj)) (h1 : (I + 1, oe) ∈ all) (h2 : (I, oi) ∈ all) (sub : ∀ p ∈ news', p ∈ all)
    (off : ∀ p ∈ news', (@Ne Nat p.1 I) ∧ (@Ne Nat p.1 (I + 1))) (r : rest m' news') : UnrEndW h₀ L s₁ [(I + 1, oe), (I, oi)] rest { s₁ with heap := h', toks := tk } := by
  refine ⟨h', tk, m', news', rfl, F, fun p hp => ?_, fun p hp q hq e => ?_, r⟩
  · rcases List.mem_append.mp hp with hp | hp
    · rcases List.mem_cons.mp hp with rfl | hp
      · exact N _ h1
      · rw [List.mem_singleton.mp hp]; exact N _ h2
    · exact N p (sub p hp)
  · have hq' : q = (I + 1, oe) ∨ q = (I, oi) := by simpa using hq
    rcases hq' with rfl | rfl
    · exact (off p hp).2 e
    · exact (off p hp).1 e
end Mine
namespace Mine
open PySem PySem.W PySem.Calls PyProof.Rows
theorem News.swap {h₀ h h' : Heap} {L a : Addr} {o' : Obj} {all all' : List (Addr × Obj)} (N : News h₀ L h all) {o : Obj} (ha : (a, o) ∈ all) (hs : ∀ b x, b ≠ a → h.get? b = some x → h'.get? b = some x) (ho : h'.get? a = some o')
    (sub : ∀ p ∈ all', p = (a, o') ∨ (p ∈ all ∧ p.1 ≠ a)) : News h₀ L h' all' := by
  intro p hp
  rcases sub p hp with rfl | ⟨h1, h2⟩
  · exact ⟨ho, (N _ ha).2⟩
  · exact ⟨hs _ _ h2 (N p h1).1, (N p h1).2⟩
def TabSt (ln cl : Int) (ql : Str) (tab : Obj) (tl : List (Addr × Obj)) : Prop :=
  tab = tabObj #[] ∨ ∃ c' oc vs t, tab = tabObj #[rawInt ln, rawInt cl, .ref c'] ∧ (c', oc) ∈ tl ∧ oc.data = .fields vs ∧ vs[1]? = some (.str ql t)
theorem TabSt.mono {ln cl : Int} {ql : Str} {tab : Obj} {tl tl' : List (Addr × Obj)} (x : TabSt ln cl ql tab tl) (h : ∀ p ∈ tl, p ∈ tl') : TabSt ln cl ql tab tl' := by
  rcases x with x | ⟨c', oc, vs, t, e, m, d, v⟩
  · exact .inl x
  · exact .inr ⟨c', oc, vs, t, e, h _ m, d, v⟩
structure J1R (i : Nat) (tl : List (Addr × Obj)) (wv rv : Array Value) (es rs : List Ent) : Prop where
  row : All2 (RowIn tl) rv.toList rs
  works : All2 (WorkIn tl) wv.toList es
  len : es.length ≤ i
  place : ∀ e ∈ es, e.1 < i ∧ e.2.2.size ≤ 100
  incr : es.Pairwise fun a b => a.1 < b.1
  perm : rs.Perm es
  lex : rs.Pairwise lexlt
def J1 (sc M W R c1 c0 : Addr) (mo : Obj) (mtl : List (Addr × Obj)) (ln cl : Int) (ql : Str) (I : Addr) (i : Nat) (m : Str → Option Value) (nw : List (Addr × Obj)) : Prop :=
  ∃ (wv rv : Array Value) (wn rn : Nat) (oc1 oc0 : Obj) (x1 x0 : Option Value) (tab : Obj) (tl : List (Addr × Obj)) (es rs : List Ent),
    nw = (M, mo) :: (W, PySem.W.listOf wv wn) :: (R, PySem.W.listOf rv rn) :: (c1, oc1) :: (c0, oc0) :: (130, tab) :: tl ∧ oc1.data = .cell x1 ∧ oc0.data = .cell x0 ∧ TabSt ln cl ql tab tl ∧ OwnOff tl [I + 1, I, W, R, c1, c0, 130] ∧ (∀ p ∈ mtl, p ∈ tl) ∧
    (m (Str.ofString "script") = some (.ref sc) ∧ m (Str.ofString "row") = some (.ref R) ∧ m (Str.ofString "works") = some (.ref W)) ∧ J1R i tl wv rv es rs
end Mine
end

section
open PySem PySem.W PySem.Calls PyProof.Rows PySem.Builtin
namespace Mine
set_option maxRecDepth 100000
theorem join_nil_cps : ∀ l : List Str, (Str.join (Str.ofString "") l).cps.toList = l.flatMap fun x => x.cps.toList
  | [] => rfl
  | [x] => by simp [Str.join]
  | x :: y :: l => by
    have ih := join_nil_cps (y :: l)
    rw [List.flatMap_cons, ← ih]
    show ((x ++ Str.ofString "" ++ Str.join (Str.ofString "") (y :: l)).cps.toList) = _
    show ((x.cps ++ (Str.ofString "").cps ++ (Str.join (Str.ofString "") (y :: l)).cps).toList) = _
    rw [Array.toList_append, Array.toList_append]
    have e : (Str.ofString "").cps.toList = [] := by decide
    rw [e, List.append_nil]
theorem textS_cps (fs : List Nat) (h : ∀ f ∈ fs, f < 6) : (textS fs).cps.toList = textOf fs := by
  unfold textS
  have e : Txt.join (Str.ofString "") (fs.map lineS) = Str.join (Str.ofString "") (fs.map lineS) := eq_of_beq (join_plain_closes _ _)
  rw [e, join_nil_cps, List.flatMap_map]
  unfold textOf
  induction fs with
  | nil => rfl
  | cons f fs ih =>
    rw [List.flatMap_cons, List.flatMap_cons, lineS_cps f (h f List.mem_cons_self)]
    congr 1
    exact ih (fun g hg => h g (List.mem_cons_of_mem _ hg)) (eq_of_beq (join_plain_closes _ _))
def fsOf (d : Int) : List Nat := (figsOf d).map Int.toNat
theorem fig_range (d : Int) (p : Nat) : 0 ≤ figOf d p ∧ figOf d p < 6 := ⟨Int.fmod_nonneg_of_pos _ (by decide), Int.fmod_lt_of_pos _ (by decide)⟩
theorem figs_mem {d n : Int} (h : n ∈ figsOf d) : 0 ≤ n ∧ n < 6 := by
  obtain ⟨p, _, rfl⟩ := List.mem_map.mp h
  exact fig_range d p
theorem fs_mem {d : Int} {f : Nat} (h : f ∈ fsOf d) : f < 6 := by
  obtain ⟨n, hn, rfl⟩ := List.mem_map.mp h
  have := figs_mem hn
  omega
theorem figs_nat (d : Int) : figsOf d = (fsOf d).map Int.ofNat := by
  unfold fsOf
  rw [List.map_map]
  conv => lhs; rw [← List.map_id (figsOf d)]
  exact List.map_congr_left fun n hn => (Int.toNat_of_nonneg (figs_mem hn).1).symm
theorem fs_len (d : Int) : 1 ≤ (fsOf d).length ∧ (fsOf d).length ≤ 4 := by
  unfold fsOf figsOf
  rw [List.length_map, List.length_map, List.length_range]
  have q0 : 0 ≤ (d.fdiv 6912).fmod 4 := Int.fmod_nonneg_of_pos _ (by decide)
  have q1 : (d.fdiv 6912).fmod 4 < 4 := Int.fmod_lt_of_pos _ (by decide)
  omega
def toldB (f : Nat) : Array UInt8 := if f % 2 = 1 then #[46, 46, 13, 10] else #[97, 13, 10]
theorem toNat_inj : ∀ {a b : List UInt8}, a.map (·.toNat) = b.map (·.toNat) → a = b
  | [], [], _ => rfl
  | [], _ :: _, h => by simp at h
  | _ :: _, [], h => by simp at h
  | x :: a, y :: b, h => by
    simp only [List.map_cons, List.cons.injEq] at h
    rw [UInt8.toNat_inj.mp h.1, toNat_inj h.2]
theorem told_nat (fs : List Nat) : (Bytes.joined #[] (fs.map toldB)).toList.map (·.toNat) = quoteOf fs := by
  rw [joined_nil]
  unfold quoteOf
  rw [List.toList_toArray, List.map_map, List.map_flatten, List.map_map, List.flatMap_def]
  congr 1
  refine List.map_congr_left fun f _ => ?_
  simp only [Function.comp, toldB]
  split <;> rfl
theorem told_eq {y : Array UInt8} {fs : List Nat} (h : y.toList.map (·.toNat) = quoteOf fs) : Bytes.joined #[] (fs.map toldB) = y := by
  have := toNat_inj ((told_nat fs).trans h.symm)
  exact Array.toList_inj.mp this
theorem fix_small {fs : List Nat} {c : Nat} (h : c ∈ fixOf fs) : c < 256 := by
  unfold fixOf at h
  obtain ⟨f, _, hc⟩ := List.mem_flatMap.mp h
  unfold headOf at hc
  simp only [List.mem_cons, List.not_mem_nil, or_false] at hc
  rcases hc with rfl | rfl | rfl
  · split <;> omega
  · omega
  · omega
theorem fixB_nat {l : List Nat} (h : ∀ c ∈ l, c < 256) : (((l.map Int.ofNat).map fun n => n.toNat.toUInt8).toArray).toList.map (·.toNat) = l := by
  rw [List.toList_toArray, List.map_map, List.map_map]
  conv => rhs; rw [← List.map_id l]
  refine List.map_congr_left fun c hc => ?_
  have := h c hc
  show c % 256 = c
  omega
theorem quote_len {fs : List Nat} (h : fs.length ≤ 4) : (quoteOf fs).length ≤ 100 := by
  have : ∀ fs : List Nat, (quoteOf fs).length ≤ 4 * fs.length := by
    intro fs
    induction fs with
    | nil => simp [quoteOf]
    | cons f fs ih =>
      have e : quoteOf (f :: fs) = (if f % 2 = 1 then [46, 46, 13, 10] else [97, 13, 10]) ++ quoteOf fs := by simp [quoteOf]
      rw [e, List.length_append, List.length_cons]
      have : (if f % 2 = 1 then [46, 46, 13, 10] else [97, 13, 10] : List Nat).length ≤ 4 := by split <;> simp
      omega
  have := this fs
  omega
theorem fix_len (fs : List Nat) (h : fs.length ≤ 4) : (fixOf fs).length ≤ 12 := by
  have : ∀ fs : List Nat, (fixOf fs).length = 3 * fs.length := by
    intro fs
    induction fs with
    | nil => rfl
    | cons f fs ih => simp [fixOf] at ih ⊢; omega
  have := this fs
  omega
theorem text_len (fs : List Nat) (h : fs.length ≤ 4) : (textOf fs).length ≤ 12 := by
  have : ∀ fs : List Nat, (textOf fs).length ≤ 3 * fs.length := by
    intro fs
    induction fs with
    | nil => simp [textOf]
    | cons f fs ih =>
      have e : textOf (f :: fs) = lineOf f ++ textOf fs := by simp [textOf]
      have q : (lineOf f).length ≤ 3 := by unfold lineOf tailOf; split; simp; split <;> simp
      rw [e, List.length_append, List.length_cons]
      omega
  have := this fs
  omega
/-- the offset that is told of the zone's text -/
theorem off_zoneI {d h f : Int} (hd0 : 0 ≤ d) (hd1 : d < 6) (hh0 : 0 ≤ h) (hh1 : h < 12) (hf0 : 0 ≤ f) (hf1 : f < 2) :
    (zoneOf d h f).length ≤ 16 ∧ ∃ r, offOf (zoneOf d h f) = some r ∧ (d = 5 → r = none) ∧ (d ≠ 5 → ∃ o, r = some o ∧ ∀ c, c * 1800 - o = dueOf d h f c) := by
  obtain ⟨dn, rfl⟩ : ∃ n : Nat, d = n := ⟨d.toNat, by omega⟩
  obtain ⟨hn, rfl⟩ : ∃ n : Nat, h = n := ⟨h.toNat, by omega⟩
  obtain ⟨fn, rfl⟩ : ∃ n : Nat, f = n := ⟨f.toNat, by omega⟩
  have q := off_zone ⟨dn, by omega⟩ ⟨hn, by omega⟩ ⟨fn, by omega⟩
  refine ⟨q.2, _, q.1, fun e => if_pos (by simpa using Int.ofNat.inj e), fun e => ⟨_, if_neg (fun e2 => e (by simpa using congrArg Int.ofNat e2)), fun c => ?_⟩⟩
  unfold dueOf
  rw [Int.sub_mul]
  rfl
theorem ints_atN : ∀ {vs : List Value} {ks : List Nat}, IntsAre vs (ks.map Int.ofNat) → ∀ {j : Nat} {v : Value}, vs[j]? = some v → ∃ k t, ks[j]? = some k ∧ v = .int (Int.ofNat k) t
  | [], [], _, j, v, h => by simp at h
  | _ :: vs, k :: ks, .cons _ t r, 0, v, h => by
    simp at h; exact ⟨k, t, rfl, h.symm⟩
  | _ :: vs, k :: ks, .cons _ t r, j + 1, v, h => ints_atN (vs := vs) (ks := ks) r (by simpa using h)
theorem lineS_pos {k : Nat} (h : (Int.ofNat k).fmod 2 = 1) : lineS k = Str.ofString "." ++ ([Str.ofString "\n", Str.ofString "\r", Str.ofString "\r\n"].getD ((Int.ofNat k).fdiv 2).toNat Str.empty) := by
  have e1 : (Int.ofNat k).fmod 2 = ((k % 2 : Nat) : Int) := by rw [Int.fmod_eq_emod_of_nonneg _ (by decide)]; rfl
  have e2 : ((Int.ofNat k).fdiv 2).toNat = k / 2 := by rw [Int.fdiv_eq_ediv_of_nonneg _ (by decide)]; rfl
  unfold lineS
  rw [if_pos (by omega), e2]
theorem lineS_neg {k : Nat} (h : ¬ (Int.ofNat k).fmod 2 = 1) : lineS k = Str.ofString "a" ++ ([Str.ofString "\n", Str.ofString "\r", Str.ofString "\r\n"].getD ((Int.ofNat k).fdiv 2).toNat Str.empty) := by
  have e1 : (Int.ofNat k).fmod 2 = ((k % 2 : Nat) : Int) := by rw [Int.fmod_eq_emod_of_nonneg _ (by decide)]; rfl
  have e2 : ((Int.ofNat k).fdiv 2).toNat = k / 2 := by rw [Int.fdiv_eq_ediv_of_nonneg _ (by decide)]; rfl
  unfold lineS
  rw [if_neg (by omega), e2]
theorem toldB_pos {k : Nat} (h : (Int.ofNat k).fmod 2 = 1) : toldB k = #[46, 46, 13, 10] := by
  have e1 : (Int.ofNat k).fmod 2 = ((k % 2 : Nat) : Int) := by rw [Int.fmod_eq_emod_of_nonneg _ (by decide)]; rfl
  unfold toldB
  rw [if_pos (by omega)]
theorem toldB_neg {k : Nat} (h : ¬ (Int.ofNat k).fmod 2 = 1) : toldB k = #[97, 13, 10] := by
  have e1 : (Int.ofNat k).fmod 2 = ((k % 2 : Nat) : Int) := by rw [Int.fmod_eq_emod_of_nonneg _ (by decide)]; rfl
  unfold toldB
  rw [if_neg (by omega)]
theorem take_mapS {α β : Type} (g : α → β) {ks : List α} {j : Nat} {k : α} (h : ks[j]? = some k) : (ks.take (j + 1)).map g = (ks.take j).map g ++ [g k] := by
  rw [List.take_add_one, h, List.map_append]
  rfl
theorem bytes_snoc {ys : List Value} {l : List (Array UInt8)} (h : BytesAre ys l) (x : Array UInt8) (t : Tok) : BytesAre (ys ++ [.bytes x t]) (l ++ [x]) := by
  induction h with
  | nil => exact .cons .nil
  | cons _ ih => exact .cons ih
theorem lt63 {i : Int} (h : i < 3) : i < 2 ^ 63 := by omega
theorem half3 {k : Nat} (h : k < 6) : 0 ≤ (Int.ofNat k).fdiv 2 ∧ (Int.ofNat k).fdiv 2 < 3 := by
  have : (Int.ofNat k).fdiv 2 = ((k / 2 : Nat) : Int) := by rw [Int.fdiv_eq_ediv_of_nonneg _ (by decide)]; rfl
  omega
section
variable {M : Model} {A : Around} {E : Value → Shared → Prop} {s : Shared} {h₀ : Heap} {L a c P : Addr} {m mg mb : Str → Option Value} {cn : Str} {cs : Scope} {ccd : Value} {cl : List (Str × Addr)} {p : Program} {loose : List Str} {mean : ExcName → Option Value}
/-- the key of the row: a new function each time, of one code -/
theorem lam_any {rest : List (Addr × Obj)} {tab : Obj} {p1 p2 p3 p4 pos : Pos} {ql : Str} {Q : Value → Shared → Prop} (F : Fr h₀ L s.heap m) (N : News h₀ L s.heap ((P, tab) :: rest)) (hoff : ∀ q ∈ rest, q.1 ≠ P) (T : Top p loose mean mg mb h₀) (C : CodeHd h₀ c P) (hcd : ccd = .ref c)
    {tl : List (Addr × Obj)} (htl : ∀ p ∈ tl, p ∈ rest) (ht : TabSt (pos.line : Nat) (pos.col : Nat) ql tab tl) (hq : (envX cn cs L a ccd cl).qual ++ Str.ofString "<lambda>" = ql)
    (h : ∀ f h' tk tab' ex, Fr h₀ L h' m → News h₀ L h' ((P, tab') :: (ex ++ rest)) → TabSt (pos.line : Nat) (pos.col : Nat) ql tab' (ex ++ tl) → LamAt h' f → (∀ x ∈ ex, ∀ q ∈ (P, tab) :: rest, q.1 < x.1) → Q (.ref f) { s with heap := h', toks := tk }) :
    wpAny M A (eval (.Lambda (lamParams p4) (lamBody p1 p2 p3) lamScope pos) (envX cn cs L a ccd cl)) Q E s := by
  refine kla_eval rfl ?_
  rcases ht with rfl | ⟨c', oc, vs, t, rfl, hm, hd, hv⟩
  · refine kla_nest (clos := []) F N T C hcd (UpdF.head hoff) trivial rfl rfl ?_
    intro f c' oc vs t ctv h' tk F' N' hd hv l1 l2
    have N'' : News h₀ L h' ((P, tabObj #[rawInt pos.line, rawInt pos.col, .ref c']) :: ([(c', oc)] ++ rest)) := fun q hq => N' q (by
      rcases List.mem_cons.mp hq with rfl | hq
      · exact List.Mem.tail _ (List.Mem.tail _ (List.Mem.head _))
      · rcases List.mem_append.mp hq with hq | hq
        · rw [List.mem_singleton.mp hq]; exact List.Mem.tail _ (List.Mem.head _)
        · exact List.Mem.tail _ (List.Mem.tail _ (List.Mem.tail _ hq)))
    refine h f h' tk _ [(c', oc)] F' N'' (.inr ⟨c', oc, vs, t, rfl, List.mem_append_left _ (List.Mem.head _), hd, hq ▸ hv⟩) ⟨p1, p2, p3, p4, _, _, _, c', ctv, (N' _ (List.Mem.head _)).1, codeRec_news N' (List.Mem.tail _ (List.Mem.head _)) hd hv⟩ (fun x hx q hq => ?_)
    rw [List.mem_singleton.mp hx]
    exact l1 q hq
  · refine kla_hit (clos := []) (c' := c') F N T C hcd (List.Mem.head _) (by simp [TriplesOk, rawInt]) (codeAmong_snoc [] trivial rfl) rfl ?_
    intro f ctv h' tk F' N' l1
    refine h f h' tk _ [] F' (fun q hq => N' q (List.Mem.tail _ hq)) (.inr ⟨c', oc, vs, t, rfl, hm, hd, hv⟩) ⟨p1, p2, p3, p4, _, _, _, c', ctv, (N' _ (List.Mem.head _)).1, ?_⟩ (fun x hx => nomatch hx)
    rw [hq]
    exact codeRec_news N' (List.Mem.tail _ (List.Mem.tail _ (htl _ hm))) hd hv
end
theorem text_weight (fs : List Nat) (h : fs.length ≤ 4) (h6 : ∀ f ∈ fs, f < 6) : ((fs.map lineS).map (·.length)).sum + (fs.map lineS).length * (Str.ofString "").length ≤ 16777216 := by
  have e : (Str.ofString "").length = 0 := by decide
  have : ∀ fs : List Nat, (∀ f ∈ fs, f < 6) → ((fs.map lineS).map (·.length)).sum ≤ 3 * fs.length := by
    intro fs
    induction fs with
    | nil => intro _; simp
    | cons f fs ih =>
      intro h6
      have q := ih fun g hg => h6 g (List.mem_cons_of_mem _ hg)
      have q2 : (lineS f).length ≤ 3 := by
        have hf := h6 f List.mem_cons_self
        have : f = 0 ∨ f = 1 ∨ f = 2 ∨ f = 3 ∨ f = 4 ∨ f = 5 := by omega
        rcases this with rfl | rfl | rfl | rfl | rfl | rfl <;> decide
      simp only [List.map_cons, List.sum_cons, List.length_cons]
      omega
  have := this fs h6
  rw [e]
  omega
theorem J1R.next {i : Nat} {tl : List (Addr × Obj)} {wv rv : Array Value} {es rs : List Ent} (h : J1R i tl wv rv es rs) : J1R (i + 1) tl wv rv es rs :=
  { h with len := Nat.le_succ_of_le h.len, place := fun e he => ⟨Int.lt_trans (h.place e he).1 (Int.ofNat_lt.mpr (Nat.lt_succ_self i)), (h.place e he).2⟩ }
theorem off_six {M W R c1 c0 I : Nat} {mo wo ro o1 o0 tab : Obj} {tl : List (Addr × Obj)} {r : List Addr} (iM : M < I) (iW : W < I) (iR : R < I) (i1 : c1 < I) (i0 : c0 < I) (iP : 130 < I) (h : OwnOff tl ((I + 1) :: I :: r)) :
    ∀ p ∈ ((M, mo) :: (W, wo) :: (R, ro) :: (c1, o1) :: (c0, o0) :: (130, tab) :: tl : List (Addr × Obj)), (@Ne Nat p.1 I) ∧ (@Ne Nat p.1 (I + 1)) := by
  intro p hp
  simp only [List.mem_cons] at hp
  rcases hp with rfl | rfl | rfl | rfl | rfl | rfl | hp
  · exact ⟨neLt iM, neLt (Nat.lt_succ_of_lt iM)⟩
  · exact ⟨neLt iW, neLt (Nat.lt_succ_of_lt iW)⟩
  · exact ⟨neLt iR, neLt (Nat.lt_succ_of_lt iR)⟩
  · exact ⟨neLt i1, neLt (Nat.lt_succ_of_lt i1)⟩
  · exact ⟨neLt i0, neLt (Nat.lt_succ_of_lt i0)⟩
  · exact ⟨neLt iP, neLt (Nat.lt_succ_of_lt iP)⟩
  · exact ⟨h p hp I (List.mem_cons_of_mem _ List.mem_cons_self), h p hp (I + 1) List.mem_cons_self⟩
theorem sub_nil {α : Type} {all : List α} : ∀ p ∈ ([] : List α), p ∈ all := fun _ h => nomatch h
theorem sub_cons {α : Type} {a : α} {l all : List α} (h1 : a ∈ all) (h2 : ∀ p ∈ l, p ∈ all) : ∀ p ∈ a :: l, p ∈ all := List.forall_mem_cons.mpr ⟨h1, h2⟩
theorem sub_tl {α : Type} {a : α} {l tl : List α} (h : ∀ p ∈ tl, p ∈ l) : ∀ p ∈ tl, p ∈ a :: l := fun p hp => List.mem_cons_of_mem _ (h p hp)
theorem sub_refl {α : Type} {l : List α} : ∀ p ∈ l, p ∈ l := fun _ h => h
theorem fix_rangeI {fs : List Nat} : ∀ n ∈ (fixOf fs).map Int.ofNat, 0 ≤ n ∧ n < 256 := by
  intro n hn
  obtain ⟨c, hc, rfl⟩ := List.mem_map.mp hn
  have h := fix_small hc
  show (0 : Int) ≤ ((c : Nat) : Int) ∧ ((c : Nat) : Int) < 256
  omega
theorem Fr.mut {h₀ h h' : Heap} {L a : Addr} {m : Str → Option Value} (F : Fr h₀ L h m) (hn : a ≠ L) (h0 : h₀.get? a = none) (hs : ∀ b x, b ≠ a → h.get? b = some x → h'.get? b = some x) : Fr h₀ L h' m :=
  ⟨F.ns.at' fun o e => hs _ o (Ne.symm hn) e, fun b o e => hs b o (fun q => by rw [q, h0] at e; cases e) (F.keep b o e), F.above⟩
theorem row_ins {i : Nat} {tl tl2 : List (Addr × Obj)} {wv rv items' : Array Value} {es rs : List Ent} (hJ : J1R i tl wv rv es rs) (hs : ∀ p ∈ tl, p ∈ tl2) {D : Addr} {t tt tb : Tok} {du : Int} {oct : Array UInt8}
    (hm : (D, tupO #[.int ((i : Nat) : Int) t, .int du tt, .bytes oct tb]) ∈ tl2) {p : Nat} (hb : Bis (rs.map (·.2.1)).length (upR (rs.map (·.2.1)) du) p p) (hit : items'.toList = rv.toList.take p ++ .ref D :: rv.toList.drop p) :
    All2 (RowIn tl2) items'.toList (rs.take p ++ (((i : Nat) : Int), du, oct) :: rs.drop p) ∧ (rs.take p ++ (((i : Nat) : Int), du, oct) :: rs.drop p).Perm (es ++ [(((i : Nat) : Int), du, oct)]) ∧ (rs.take p ++ (((i : Nat) : Int), du, oct) :: rs.drop p).Pairwise lexlt := by
  have hrow := hJ.row.mono (S := RowIn tl2) fun a b x => x.mono hs
  obtain ⟨_, _, hpn, lo, hi⟩ := hb
  have gd : ∀ (j : Nat) (e : Ent), rs[j]? = some e → (rs.map (·.2.1)).getD j 0 = e.2.1 := fun j e he => by
    rw [List.getD_eq_getElem?_getD, List.getElem?_map, he]; rfl
  have st := row_step (x := (((i : Nat) : Int), du, oct)) hJ.perm hJ.lex (p := p) (fun e he => (hJ.place e he).1) (fun j hj e he => by
    have := lo j (Int.ofNat_lt.mpr hj)
    unfold upR at this
    rw [gd j e he] at this
    exact Int.not_lt.mp this) (fun j hj e he => by
    have hjn : j < rs.length := by
      rcases Nat.lt_or_ge j rs.length with q | q
      · exact q
      · rw [List.getElem?_eq_none q] at he; cases he
    have := hi j (Int.ofNat_le.mpr hj) (by rw [List.length_map]; exact hjn)
    unfold upR at this
    rw [gd j e he] at this
    exact this)
  refine ⟨?_, st.1, st.2⟩
  rw [hit]
  exact (hrow.take p).append (.cons ⟨D, t, tt, tb, rfl, hm⟩ (hrow.drop p))
theorem J1R.put {i : Nat} {tl tl2 : List (Addr × Obj)} {wv rv items' : Array Value} {es rs rs' : List Ent} (hJ : J1R i tl wv rv es rs) (hs : ∀ p ∈ tl, p ∈ tl2) {D : Addr} {t tt tb : Tok} {du : Int} {oct : Array UInt8} (h100 : oct.size ≤ 100)
    (hm : (D, tupO #[.int du tt, .int ((i : Nat) : Int) t, .bytes oct tb]) ∈ tl2) (hr : All2 (RowIn tl2) items'.toList rs') (hp : rs'.Perm (es ++ [(((i : Nat) : Int), du, oct)])) (hl : rs'.Pairwise lexlt) :
    J1R (i + 1) tl2 (wv.push (.ref D)) items' (es ++ [(((i : Nat) : Int), du, oct)]) rs' where
  row := hr
  works := by
    rw [Array.toList_push]
    exact (hJ.works.mono fun a b x => x.mono hs).append (.cons ⟨D, t, tt, tb, rfl, hm⟩ .nil)
  len := by rw [List.length_append]; exact Nat.succ_le_succ hJ.len
  place := fun e he => by
    rcases List.mem_append.mp he with he | he
    · exact (hJ.next).place e he
    · rw [List.mem_singleton.mp he]
      exact ⟨Int.ofNat_lt.mpr (Nat.lt_succ_self i), h100⟩
  incr := List.pairwise_append.mpr ⟨hJ.incr, List.pairwise_singleton _ _, fun a ha b hb => by rw [List.mem_singleton.mp hb]; exact (hJ.place a ha).1⟩
  perm := hp
  lex := hl
theorem oct_size {y : Array UInt8} {fs : List Nat} (h : y.toList.map (·.toNat) = quoteOf fs) (hn : fs.length ≤ 4) : y.size ≤ 100 := by
  have := congrArg List.length h
  rw [List.length_map, Array.length_toList] at this
  rw [this]
  exact quote_len hn
theorem News.sub {h₀ h : Heap} {L : Addr} {all all' : List (Addr × Obj)} (N : News h₀ L h all) (s : ∀ p ∈ all', p ∈ all) : News h₀ L h all' := fun p hp => N p (s p hp)
theorem sub_cons2 {α : Type} {P : α → Prop} {a : α} {l : List α} (h1 : P a) (h2 : ∀ p ∈ l, P p) : ∀ p ∈ a :: l, P p := List.forall_mem_cons.mpr ⟨h1, h2⟩
theorem bj_type : typeOf (.builtin "bytes.join") = pure (.type "method_descriptor") := by kernel_rfl
theorem bj_method {M : Model} {A : Around} {E : Value → Shared → Prop} {s : Shared} {b : Array UInt8} {t : Tok} {pl : Sem Bool} {Q : Value × List Value → Shared → Prop} (h : Q (.builtin "bytes.join", [.bytes b t]) s) : wpAny M A (getMethod (.bytes b t) (Str.ofString "join") pl) Q E s :=
  KBd.method_of (.bytes b t) (typeIs_bytes _ _ _) bj_slot bj_type KBd.noRef h
theorem told_weight (fs : List Nat) (h : fs.length ≤ 4) : ((fs.map toldB).map (·.size)).sum + (fs.map toldB).length * (#[] : Array UInt8).size ≤ 16777216 := by
  have : ∀ fs : List Nat, ((fs.map toldB).map (·.size)).sum ≤ 4 * fs.length := by
    intro fs
    induction fs with
    | nil => simp
    | cons f fs ih =>
      have q2 : (toldB f).size ≤ 4 := by unfold toldB; split <;> simp
      simp only [List.map_cons, List.sum_cons, List.length_cons]
      omega
  have := this fs
  simp only [Array.size_empty, Nat.mul_zero, Nat.add_zero]
  omega
theorem lt5_of {d : Int} (h : d < 6) (h5 : d ≠ 5) : d < 5 := by omega
end Mine
end

section
open PySem PySem.W PySem.Calls PyProof.Rows PySem.SeqAt
namespace Mine
set_option maxRecDepth 100000
def TupAt (h : Heap) (v : Value) (e : Ent) : Prop := ∃ a t1 t2 t3, v = .ref a ∧ IsTup h a #[.int e.1 t1, .int e.2.1 t2, .bytes e.2.2 t3]
theorem isTuple_of {h : Heap} {a : Addr} {xs : Array Value} (x : IsTup h a xs) : h.IsTuple a xs := x
section
variable {prog : Program} {w : World} {A : Around} {E : Value → Shared → Prop} {s : Shared}
theorem tup_same {u v : Value} {e : Ent} (hu : A.units < cLine) (x : TupAt s.heap u e) (y : TupAt s.heap v e) : EqAt A s u v true := by
  obtain ⟨a, t1, t2, t3, rfl, h1⟩ := x
  obtain ⟨b, t1', t2', t3', rfl, h2⟩ := y
  by_cases hab : a = b
  · subst hab; exact EqAt.same _
  · have q := RcAt.tuples (A := A) (e := fun _ => true) (isTuple_of h1) (isTuple_of h2) hu (fun j j1 j2 => by
      have j1' : j < 3 := j1
      have : j = 0 ∨ j = 1 ∨ j = 2 := by omega
      rcases this with rfl | rfl | rfl
      · intro prog w E Q hq; exact wpAny_eqBool_int (by simpa using hq)
      · intro prog w E Q hq; exact wpAny_eqBool_int (by simpa using hq)
      · intro prog w E Q hq; exact eqBool_bytes (by simpa using hq))
    exact EqAt.of_refs hab q
theorem rows_same {R D : Addr} {rv ys : Array Value} {rs : List Ent} {Q : Value → Shared → Prop} (hR : s.heap.IsList R rv) (hD : s.heap.IsList D ys) (x : All2 (TupAt s.heap) rv.toList rs) (y : All2 (TupAt s.heap) ys.toList rs) (hu : A.units < cLine) (hu1 : A.in1.units < cLine) (h : Q (.bool false) s) :
    wpAny (model prog w) A (compareOp .NotEq (.ref R) (.ref D)) Q E s := by
  have hl : rv.size = ys.size := by
    have q1 := x.length
    have q2 := y.length
    rw [Array.length_toList] at q1 q2
    omega
  refine RcNeAt.lists (e := fun _ => true) hR hD hl hu (fun j j1 j2 => ?_) prog w E Q (by
    have e : (List.range rv.size).all (fun _ => true) = true := List.all_eq_true.mpr fun _ _ => rfl
    rw [e]; exact h)
  have hj : j < rs.length := by rw [← x.length, Array.length_toList]; exact j1
  obtain ⟨a, e1, r1⟩ := x.at (List.getElem?_eq_getElem hj)
  obtain ⟨b, e2, r2⟩ := y.at (List.getElem?_eq_getElem hj)
  rw [Array.getElem?_toList] at e1 e2
  rw [Array.getElem?_eq_getElem j1] at e1
  rw [Array.getElem?_eq_getElem j2] at e2
  rw [Option.some.inj e1, Option.some.inj e2]
  exact tup_same hu1 r1 r2
end
/-- each is a tuple laid behind C -/
def NewTups (C : Addr) (h : Heap) (v : Value) (e : Ent) : Prop := ∃ a t1 t2 t3, v = .ref a ∧ @LT.lt Nat _ C a ∧ h.get? a = some (tupO #[.int e.1 t1, .int e.2.1 t2, .bytes e.2.2 t3])
theorem NewTups.keeps {C : Addr} {h h' : Heap} {vs : List Value} {es : List Ent} (x : All2 (NewTups C h) vs es) (k : ∀ b o, C < b → h.get? b = some o → h'.get? b = some o) : All2 (NewTups C h') vs es :=
  x.mono fun _ _ ⟨a, t1, t2, t3, q1, q2, q3⟩ => ⟨a, t1, t2, t3, q1, q2, k _ _ q2 q3⟩
theorem rowIn_tup {h : Heap} {tl : List (Addr × Obj)} (N : ∀ p ∈ tl, h.get? p.1 = some p.2) {vs : List Value} {es : List Ent} (x : All2 (RowIn tl) vs es) : All2 (TupAt h) vs es :=
  x.mono fun _ _ ⟨a, t1, t2, t3, q1, q2⟩ => ⟨a, t1, t2, t3, q1, _, N _ q2, rfl, _, rfl⟩
theorem newTups_tup {C : Addr} {h h' : Heap} {vs : List Value} {es : List Ent} (x : All2 (NewTups C h) vs es) (k : ∀ b o, C < b → h.get? b = some o → h'.get? b = some o) : All2 (TupAt h') vs es :=
  x.mono fun _ _ ⟨a, t1, t2, t3, q1, q2, q3⟩ => ⟨a, t1, t2, t3, q1, _, k _ _ q2 q3, rfl, _, rfl⟩
theorem small63 {n : Nat} (h : n ≤ 1000) : (n : Int) < 2 ^ 63 := by omega
theorem pick_take (items : Array Value) (k : Nat) : slicePick items none (some ((k : Nat) : Int)) none = (items.toList.take k).toArray := by
  rw [kms_pick_eq]
  congr 1
  unfold kms_pick
  have hk : ¬ ((k : Nat) : Int) < 0 := by omega
  show (items.toList.drop 0).take ((if ((k : Nat) : Int) < 0 then items.toList.length - (-((k : Nat) : Int)).toNat else min ((k : Nat) : Int).toNat items.toList.length) - 0) = _
  rw [if_neg hk, List.drop_zero, Nat.sub_zero, Int.toNat_natCast]
  rcases Nat.le_total k items.toList.length with q | q
  · rw [Nat.min_eq_left q]
  · rw [Nat.min_eq_right q, List.take_of_length_le q, List.take_of_length_le (Nat.le_refl _)]
structure J2R (ws : List (Int × Nat)) (i : Nat) (l : List Nat) (kv : List Value) : Prop where
  iv : IntsAre kv (l.map Int.ofNat)
  asc : l.Pairwise (· ≤ ·)
  le : ∀ v ∈ l, v ≤ 100
  kept : Kept (ws.take i) l
def J2 (sc Kp S R c1 c0 : Addr) (so ro oc1 oc0 tab : Obj) (tl : List (Addr × Obj)) (ws : List (Int × Nat)) (I : Addr) (i : Nat) (m : Str → Option Value) (nw : List (Addr × Obj)) : Prop :=
  ∃ (kv : List Value) (kn : Nat) (l : List Nat) (tl2 : List (Addr × Obj)) (sv lv : List Value) (Ds Dl : Addr) (en ln : Nat),
    nw = (Kp, PySem.W.listOf kv.toArray kn) :: (S, so) :: (R, ro) :: (c1, oc1) :: (c0, oc0) :: (130, tab) :: tl2 ∧ OwnOff tl2 [I, Kp, c1] ∧ (∀ p ∈ tl, p ∈ tl2) ∧
    (m (Str.ofString "script") = some (.ref sc) ∧ m (Str.ofString "row") = some (.ref R) ∧ m (Str.ofString "works") = some (.ref S) ∧ m (Str.ofString "sums") = some (.ref Ds) ∧ m (Str.ofString "least") = some (.ref Dl)) ∧
    (Ds, PySem.W.listOf sv.toArray en) ∈ tl2 ∧ (Dl, PySem.W.listOf lv.toArray ln) ∈ tl2 ∧ IntsAre sv ((sumsOf l).map Int.ofNat) ∧ IntsAre lv ((sumsOf l).map Int.ofNat) ∧ J2R ws i l kv
theorem asc_sorted {l : List Nat} (h : l.Pairwise (· ≤ ·)) : Sorted (l.map Int.ofNat) := by
  intro i j hij hj
  rw [List.length_map] at hj
  rw [List.getD_eq_getElem?_getD, List.getD_eq_getElem?_getD, List.getElem?_eq_getElem (by rw [List.length_map]; omega), List.getElem?_eq_getElem (by rw [List.length_map]; omega)]
  simp only [Option.getD_some, List.getElem_map]
  rcases Nat.lt_or_eq_of_le hij with q | rfl
  · exact Int.ofNat_le.mpr (List.pairwise_iff_getElem.mp h i j (by omega) hj q)
  · exact Int.le_refl _
theorem insAt_ints (l : List Nat) (p x : Nat) : (l.map Int.ofNat).take p ++ (Int.ofNat x) :: (l.map Int.ofNat).drop p = (insAt l p x).map Int.ofNat := by
  unfold insAt
  rw [List.map_append, List.map_cons, List.map_take, List.map_drop]
theorem kept_len {ws : List (Int × Nat)} {l : List Nat} (K : Kept ws l) : l.length ≤ ws.length := by
  obtain ⟨ch, a, _, c, _⟩ := K.ach l.length (Nat.le_refl _)
  rw [← c]; exact a.length_le
section
variable {ws : List (Int × Nat)} {i p : Nat} {l : List Nat} {kv kv' : List Value} {w : Int × Nat}
theorem ins_parts (hb : Bis (l.map Int.ofNat).length (upL (l.map Int.ofNat) (Int.ofNat w.2)) p p) : (∀ j : Nat, j < p → ∀ v, l[j]? = some v → v < w.2) ∧ (∀ j : Nat, p ≤ j → ∀ v, l[j]? = some v → w.2 ≤ v) ∧ p ≤ l.length := by
  obtain ⟨_, _, hn, lo, hi⟩ := hb
  rw [List.length_map] at hn hi
  have gd : ∀ (j v : Nat), l[j]? = some v → (l.map Int.ofNat).getD j 0 = Int.ofNat v := fun j v he => by
    rw [List.getD_eq_getElem?_getD, List.getElem?_map, he]; rfl
  refine ⟨fun j hj v hv => ?_, fun j hj v hv => ?_, Int.ofNat_le.mp hn⟩
  · have := lo j (Int.ofNat_lt.mpr hj)
    unfold upL at this
    rw [gd j v hv] at this
    have q := Classical.not_not.mp this
    exact Int.ofNat_lt.mp q
  · have hjn : j < l.length := by
      rcases Nat.lt_or_ge j l.length with q | q
      · exact q
      · rw [List.getElem?_eq_none q] at hv; cases hv
    have := hi j (Int.ofNat_le.mpr hj) hjn
    unfold upL at this
    rw [gd j v hv] at this
    have q := Int.not_lt.mp this
    exact Int.ofNat_le.mp q
theorem ins_asc (ha : l.Pairwise (· ≤ ·)) (hb : Bis (l.map Int.ofNat).length (upL (l.map Int.ofNat) (Int.ofNat w.2)) p p) : (insAt l p w.2).Pairwise (· ≤ ·) := by
  obtain ⟨lo, hi, hn⟩ := ins_parts hb
  have ha' := ha
  rw [← List.take_append_drop p l] at ha'
  obtain ⟨a1, a2, a3⟩ := List.pairwise_append.mp ha'
  unfold insAt
  refine List.pairwise_append.mpr ⟨a1, List.pairwise_cons.mpr ⟨fun v hv => ?_, a2⟩, fun a hx b hy => ?_⟩
  · obtain ⟨j, hj⟩ := List.mem_iff_getElem?.mp hv
    rw [List.getElem?_drop] at hj
    exact hi (p + j) (Nat.le_add_right _ _) v hj
  · rcases List.mem_cons.mp hy with rfl | hy
    · obtain ⟨j, hj⟩ := List.mem_iff_getElem?.mp hx
      have hjp : j < p := by
        rcases Nat.lt_or_ge j p with q | q
        · exact q
        · rw [List.getElem?_eq_none (by rw [List.length_take]; omega)] at hj; cases hj
      rw [List.getElem?_take_of_lt hjp] at hj
      exact Nat.le_of_lt (lo j hjp a hj)
    · exact a3 a hx b hy
theorem J2R.step (h : J2R ws i l kv) (hw : ws[i]? = some w) (hd : ∀ v ∈ ws.take i, v.1 ≤ w.1) (hb : Bis (l.map Int.ofNat).length (upL (l.map Int.ofNat) (Int.ofNat w.2)) p p) (h100 : w.2 ≤ 100) :
    (1800 * ((insAt l p w.2).sum : Int) > w.1 → IntsAre kv' ((insAt l p w.2).dropLast.map Int.ofNat) → J2R ws (i + 1) (insAt l p w.2).dropLast kv') ∧
    (¬ 1800 * ((insAt l p w.2).sum : Int) > w.1 → IntsAre kv' ((insAt l p w.2).map Int.ofNat) → J2R ws (i + 1) (insAt l p w.2) kv') := by
  obtain ⟨lo, hi, hn⟩ := ins_parts hb
  have K := Kept.step h.kept hd hn lo hi
  have e : ws.take (i + 1) = ws.take i ++ [w] := by rw [List.take_add_one, hw]; rfl
  rw [← e] at K
  have asc := ins_asc h.asc hb
  have le : ∀ v ∈ insAt l p w.2, v ≤ 100 := fun v hv => by
    unfold insAt at hv
    rcases List.mem_append.mp hv with q | q
    · exact h.le v (List.mem_of_mem_take q)
    · rcases List.mem_cons.mp q with rfl | q
      · exact h100
      · exact h.le v (List.mem_of_mem_drop q)
  refine ⟨fun hc hk => ?_, fun hc hk => ?_⟩
  · rw [if_pos hc] at K
    exact ⟨hk, asc.sublist (List.dropLast_sublist _), fun v hv => le v ((List.dropLast_sublist _).subset hv), K⟩
  · rw [if_neg hc] at K
    exact ⟨hk, asc, le, K⟩
end
def sumsTo (l : List Nat) (j : Nat) : List Int := (List.range j).map fun k => Int.ofNat (l.take k).sum
theorem sumsTo_turn (l : List Nat) (j : Nat) : sumsTo l (j + 1) = sumsTo l j ++ [Int.ofNat (l.take j).sum] := by
  unfold sumsTo
  rw [List.range_succ, List.map_append]
  rfl
theorem sumsTo_all (l : List Nat) : sumsTo l (l.length + 1) = (sumsOf l).map Int.ofNat := by
  unfold sumsTo sumsOf
  rw [List.map_map]
  rfl
theorem sum_ints (l : List Nat) : (l.map Int.ofNat).sum = ((l.sum : Nat) : Int) := (natSum_cast l).symm
end Mine
end

section
open PySem PySem.W PySem.Calls PyProof.Rows PySem.SeqAt
namespace Mine
set_option maxRecDepth 100000
theorem bis_count {xs : List Int} {k p : Int} (h : Bis xs.length (upR xs k) p p) : ((xs.filter fun x => decide (x ≤ k)).length : Int) = p := by
  obtain ⟨h0, _, hn, lo, hi⟩ := h
  obtain ⟨q, rfl⟩ : ∃ q : Nat, p = q := ⟨p.toNat, by omega⟩
  have hq : q ≤ xs.length := Int.ofNat_le.mp hn
  have gd : ∀ (j : Nat) (v : Int), xs[j]? = some v → xs.getD j 0 = v := fun j v e => by rw [List.getD_eq_getElem?_getD, e]; rfl
  have e1 : (xs.take q).filter (fun x => decide (x ≤ k)) = xs.take q := List.filter_eq_self.mpr fun v hv => by
    obtain ⟨j, hj⟩ := List.mem_iff_getElem?.mp hv
    have hjq : j < q := by
      rcases Nat.lt_or_ge j q with r | r
      · exact r
      · rw [List.getElem?_eq_none (by rw [List.length_take]; omega)] at hj; cases hj
    rw [List.getElem?_take_of_lt hjq] at hj
    have := lo j (Int.ofNat_lt.mpr hjq)
    unfold upR at this
    rw [gd j v hj] at this
    simp only [decide_eq_true_eq]; omega
  have e2 : (xs.drop q).filter (fun x => decide (x ≤ k)) = [] := List.filter_eq_nil_iff.mpr fun v hv => by
    obtain ⟨j, hj⟩ := List.mem_iff_getElem?.mp hv
    rw [List.getElem?_drop] at hj
    have hjn : q + j < xs.length := by
      rcases Nat.lt_or_ge (q + j) xs.length with r | r
      · exact r
      · rw [List.getElem?_eq_none r] at hj; cases hj
    have := hi (q + j) (Int.ofNat_le.mpr (Nat.le_add_right _ _)) hjn
    unfold upR at this
    rw [gd (q + j) v hj] at this
    simp only [decide_eq_true_eq]; omega
  conv => lhs; rw [← List.take_append_drop q xs]
  rw [List.filter_append, e1, e2, List.append_nil, List.length_take, Nat.min_eq_left hq]
theorem sums_sorted (l : List Nat) : Sorted ((sumsOf l).map Int.ofNat) := by
  intro i j hij hj
  rw [List.length_map] at hj
  unfold sumsOf at hj ⊢
  rw [List.length_map, List.length_range] at hj
  rw [List.map_map, List.getD_eq_getElem?_getD, List.getD_eq_getElem?_getD, List.getElem?_map, List.getElem?_map, List.getElem?_range (by omega), List.getElem?_range hj]
  show Int.ofNat (l.take i).sum ≤ Int.ofNat (l.take j).sum
  refine Int.ofNat_le.mpr ?_
  have e : l.take i = (l.take j).take i := by rw [List.take_take, Nat.min_eq_left hij]
  rw [e]
  exact take_sum_le _ _
theorem sums_len (l : List Nat) : ((sumsOf l).map Int.ofNat).length = l.length + 1 := by unfold sumsOf; simp
/-- the ones of xs up to k, of the first j -/
def upTo (xs : List Int) (k : Int) (j : Nat) : List Int := (xs.take j).filter fun x => decide (x ≤ k)
theorem upTo_pos {xs : List Int} {k x : Int} {j : Nat} (h : xs[j]? = some x) (hx : x ≤ k) : (upTo xs k (j + 1)).length = (upTo xs k j).length + 1 := by
  unfold upTo
  rw [List.take_add_one, h, List.filter_append, List.length_append]
  simp [hx]
theorem upTo_neg {xs : List Int} {k x : Int} {j : Nat} (h : xs[j]? = some x) (hx : ¬ x ≤ k) : (upTo xs k (j + 1)).length = (upTo xs k j).length := by
  unfold upTo
  rw [List.take_add_one, h, List.filter_append, List.length_append]
  simp [hx]
theorem upTo_all {xs : List Int} {k : Int} {j : Nat} (h : xs.length ≤ j) : upTo xs k j = xs.filter fun x => decide (x ≤ k) := by
  unfold upTo
  rw [List.take_of_length_le h]
theorem ints_at : ∀ {vs : List Value} {ks : List Int}, IntsAre vs ks → ∀ {j : Nat} {v : Value}, vs[j]? = some v → ∃ k t, ks[j]? = some k ∧ v = .int k t
  | [], [], _, j, v, h => by simp at h
  | _ :: vs, k :: ks, .cons _ t r, 0, v, h => by
    simp at h; exact ⟨k, t, rfl, h.symm⟩
  | _ :: vs, k :: ks, .cons _ t r, j + 1, v, h => ints_at (vs := vs) (ks := ks) r (by simpa using h)
def J3 (Xl c1 Ds Dl : Addr) (xo so lo tab : Obj) (_ : Addr) (_ : Nat) (m : Str → Option Value) (nw : List (Addr × Obj)) : Prop :=
  ∃ (oc1 : Obj) (x1 : Option Value), nw = [(Xl, xo), (c1, oc1), (130, tab), (Dl, lo), (Ds, so)] ∧ oc1.data = .cell x1 ∧ m (Str.ofString "sums") = some (.ref Ds) ∧ m (Str.ofString "least") = some (.ref Dl)
theorem TabSt.isTab {ln cl : Int} {ql : Str} {tab : Obj} {tl : List (Addr × Obj)} (x : TabSt ln cl ql tab tl) : ∃ ps, tab = tabObj ps := by
  rcases x with x | ⟨_, _, _, _, e, _⟩
  · exact ⟨_, x⟩
  · exact ⟨_, e⟩
theorem sub_nil2 {α : Type} {P : α → Prop} : ∀ p ∈ ([] : List α), P p := fun _ h => nomatch h
end Mine
namespace Mine
open PySem PySem.W PySem.Calls PyProof.Rows
theorem J1.elim {P : Prop} {sc M W R c1 c0 : Addr} {mo : Obj} {mtl : List (Addr × Obj)} {ln cl : Int} {ql : Str} {I : Addr} {i : Nat} {m : Str → Option Value} {nw : List (Addr × Obj)} (h : J1 sc M W R c1 c0 mo mtl ln cl ql I i m nw)
    (k : ∀ (wv rv : Array Value) (wn rn : Nat) (oc1 oc0 : Obj) (x1 x0 : Option Value) (tab : Obj) (tl : List (Addr × Obj)) (es rs : List Ent), nw = (M, mo) :: (W, PySem.W.listOf wv wn) :: (R, PySem.W.listOf rv rn) :: (c1, oc1) :: (c0, oc0) :: (130, tab) :: tl → oc1.data = .cell x1 → oc0.data = .cell x0 → TabSt ln cl ql tab tl → OwnOff tl [I + 1, I, W, R, c1, c0, 130] → (∀ p ∈ mtl, p ∈ tl) → m (Str.ofString "script") = some (.ref sc) → m (Str.ofString "row") = some (.ref R) → m (Str.ofString "works") = some (.ref W) → J1R i tl wv rv es rs → P) : P := by
  obtain ⟨wv, rv, wn, rn, oc1, oc0, x1, x0, tab, tl, es, rs, h1, h2, h3, h4, h5, h6, ⟨h7, h8, h9⟩, h10⟩ := h
  exact k _ _ _ _ _ _ _ _ _ _ _ _ h1 h2 h3 h4 h5 h6 h7 h8 h9 h10
theorem J2.elim {P : Prop} {sc Kp S R c1 c0 : Addr} {so ro oc1 oc0 tab : Obj} {tl : List (Addr × Obj)} {ws : List (Int × Nat)} {I : Addr} {i : Nat} {m : Str → Option Value} {nw : List (Addr × Obj)} (h : J2 sc Kp S R c1 c0 so ro oc1 oc0 tab tl ws I i m nw)
    (k : ∀ (kv : List Value) (kn : Nat) (l : List Nat) (tl2 : List (Addr × Obj)) (sv lv : List Value) (Ds Dl : Addr) (en ln : Nat), nw = (Kp, PySem.W.listOf kv.toArray kn) :: (S, so) :: (R, ro) :: (c1, oc1) :: (c0, oc0) :: (130, tab) :: tl2 → OwnOff tl2 [I, Kp, c1] → (∀ p ∈ tl, p ∈ tl2) → m (Str.ofString "script") = some (.ref sc) → m (Str.ofString "row") = some (.ref R) → m (Str.ofString "works") = some (.ref S) → m (Str.ofString "sums") = some (.ref Ds) → m (Str.ofString "least") = some (.ref Dl) →
      (Ds, PySem.W.listOf sv.toArray en) ∈ tl2 → (Dl, PySem.W.listOf lv.toArray ln) ∈ tl2 → IntsAre sv ((sumsOf l).map Int.ofNat) → IntsAre lv ((sumsOf l).map Int.ofNat) → J2R ws i l kv → P) : P := by
  obtain ⟨kv, kn, l, tl2, sv, lv, Ds, Dl, en, ln, h1, h2, h3, ⟨h4, h5, h6, h7, h8⟩, h9, h10, h11, h12, h13⟩ := h
  exact k _ _ _ _ _ _ _ _ _ _ h1 h2 h3 h4 h5 h6 h7 h8 h9 h10 h11 h12 h13
theorem J3.elim {P : Prop} {Xl c1 Ds Dl : Addr} {xo so lo tab : Obj} {I : Addr} {i : Nat} {m : Str → Option Value} {nw : List (Addr × Obj)} (h : J3 Xl c1 Ds Dl xo so lo tab I i m nw)
    (k : ∀ (oc1 : Obj) (x1 : Option Value), nw = [(Xl, xo), (c1, oc1), (130, tab), (Dl, lo), (Ds, so)] → oc1.data = .cell x1 → m (Str.ofString "sums") = some (.ref Ds) → m (Str.ofString "least") = some (.ref Dl) → P) : P := by
  obtain ⟨oc1, x1, h1, h2, h3, h4⟩ := h
  exact k _ _ h1 h2 h3 h4
theorem MailIn.elim {P : Value → Prop} {tl : List (Addr × Obj)} {v : Value} (h : MailIn tl v)
    (k : ∀ (a f : Addr) (fv : List Value) (t1 t2 t3 t4 : Tok) (d : Int), (a, tupObj (mailVals d t1 t2 t3 t4 f)) ∈ tl → (f, lst fv) ∈ tl → IntsAre fv (figsOf d) → 0 ≤ d → d < 35831808 → P (.ref a)) : P v := by
  obtain ⟨a, f, fv, t1, t2, t3, t4, d, rfl, h1, h2, h3, h4, h5⟩ := h
  exact k _ _ _ _ _ _ _ _ h1 h2 h3 h4 h5
theorem row_elim {P : Prop} {tl : List (Addr × Obj)} {l : List Value} {rs : List Ent} {i : Nat} (x : All2 (RowIn tl) l rs) (hi : i < rs.length)
    (k : ∀ (pl du : Int) (oct : Array UInt8) (a0 : Addr) (t1 t2 t3 : Tok), (pl, du, oct) = rs[i] → l[i]? = some (.ref a0) → (a0, tupO #[.int pl t1, .int du t2, .bytes oct t3]) ∈ tl → P) : P := by
  obtain ⟨v, e0, a0, t1, t2, t3, rfl, hm⟩ := x.at (List.getElem?_eq_getElem hi)
  exact k rs[i].1 rs[i].2.1 rs[i].2.2 a0 t1 t2 t3 rfl e0 hm
theorem mem_ap {α : Type} {a x : α} {l r : List α} (h : a ∈ r) : a ∈ x :: (l ++ r) := List.mem_cons_of_mem _ (List.mem_append_right _ h)
end Mine
end

section
open PySem PySem.W PySem.Calls PyProof.Rows
namespace Mine
variable {w : World} {mean : ExcName → Option Value} {mg mb : Str → Option Value}
set_option maxRecDepth 100000
set_option maxHeartbeats 8000000
local macro_rules | `(tactic| walk_at "m_toIte") => `(tactic| repeat' ((fail_if_success (with_reducible show ite _ _ _)); (walk_at "m_step1")))
local macro_rules | `(tactic| walk_at "m_toSubT") => `(tactic| repeat' ((fail_if_success (with_reducible show wpAny _ _ (subscriptTail _ _ (Value.ref _) (Value.int _ _)) _ _ _)); (walk_at "m_step1")))
local macro_rules | `(tactic| walk_at "m_toIf") => `(tactic| repeat' ((fail_if_success (with_reducible show wpAny _ _ (exec (Stmt.If _ _ _ _) _) _ _ _)); (walk_at "m_step1")))
local macro_rules | `(tactic| walk_at "call builtin:len") => `(tactic| (k_here; (with_reducible show wpAny _ _ (call (Value.builtin "len") [Value.ref _]) _ _ _); (with_unfolding_all refine' len_list ?k1 ?k2 ?_; (case k1 => first | assumption | exact News.isList (by k_asm) (by k_mem)); (case k2 => assumption); k_whole)))
local macro_rules | `(tactic| walk_at "subscriptTail Name Constant ref int") => `(tactic| (k_here; (with_reducible show wpAny _ _ (subscriptTail _ _ (Value.ref _) (Value.int _ _)) _ _ _); (refine' item_tupleT ?t ?a ?b ?c ?d ?_; (case t => first | assumption | exact Fr.tup (by k_asm) (by assumption)); (case a => decide); (case b => decide); (case c => rfl); (case d => rfl); k_whole)))
local macro_rules | `(tactic| walk_at "m_toNewTup") => `(tactic| repeat' ((fail_if_success (with_reducible show wpAny _ _ (newTuple _) _ _ _)); (walk_at "m_step1")))
local macro_rules | `(tactic| walk_at "m_toNe") => `(tactic| repeat' ((fail_if_success (with_reducible show wpAny _ _ (compareOp CmpOp.NotEq (Value.ref _) (Value.ref _)) _ _ _)); (walk_at "m_step1")))
local macro_rules | `(tactic| walk_at "getMethod bytes") => `(tactic| (k_here; (with_reducible show wpAny _ _ (getMethod (Value.bytes _ _) (PySem.Str.ofString "join") _) _ _ _); refine bj_method ?_))
local macro_rules | `(tactic| walk_at "call builtin:ord") => `(tactic| (k_here; refine P.ord_of_char ?_))
local macro_rules | `(tactic| walk_at "m_toJoin") => `(tactic| repeat' ((fail_if_success (with_reducible show wpAny _ _ (call (Value.builtin "str.join") _ _) _ _ _)); (walk_at "m_step1")))
local macro_rules | `(tactic| walk_at "m_toBJoin") => `(tactic| repeat' ((fail_if_success (with_reducible show wpAny _ _ (call (Value.builtin "bytes.join") _ _) _ _ _)); (walk_at "m_step1")))
local macro_rules | `(tactic| walk_at "m_toBytes") => `(tactic| repeat' ((fail_if_success (with_reducible show wpAny _ _ (call (Value.type "bytes") _ _) _ _ _)); (walk_at "m_step1")))
local macro_rules | `(tactic| walk_at "m_toLam") => `(tactic| repeat' ((fail_if_success (with_reducible show wpAny _ _ (eval (PySem.Expr.Lambda _ _ _ _) _) _ _ _)); (walk_at "m_step1")))
local macro_rules | `(tactic| walk_at "m_toAppend") => `(tactic| repeat' ((fail_if_success (with_reducible show wpAny _ _ (call (Value.builtin "list.append") _ _) _ _ _)); (walk_at "m_step1")))
local macro_rules | `(tactic| walk_at "m_toSorted") => `(tactic| repeat' ((fail_if_success (with_reducible show wpAny _ _ (call (Value.builtin "sorted") _ _) _ _ _)); (walk_at "m_step1")))
local macro_rules | `(tactic| walk_at "m_item") => `(tactic| (k_here; (with_reducible show wpAny _ _ (subscriptTail _ _ (Value.ref _) (Value.int _ _)) _ _ _); (with_unfolding_all refine' KTb.item_list ?k1 ?k2 ?k3 ?k4 ?k5 ?_ ?k6; (case k1 => is_list); (case k2 => (repeat (first | exact StrsAre.nil | apply StrsAre.cons))); (case k3 => assumption); (case k4 => exact Int.lt_of_lt_of_le (b := 3) (by assumption) (by decide)); (case k5 => exact lt63 (by assumption)); (case k6 => with_unfolding_all rfl); k_whole); intro t9 hi9; clear hi9))
local macro_rules | `(tactic| walk_at "subscriptTail List cons BinOp ref int") => `(tactic| walk_at "m_item")
local macro_rules | `(tactic| walk_at "subscriptTail List cons Name ref int") => `(tactic| walk_at "m_item")
local macro_rules | `(tactic| walk_at "m_toFor") => `(tactic| repeat' ((fail_if_success (with_reducible show wpAny _ _ (exec (Stmt.For _ _ _ _ _) _) _ _ _)); (walk_at "m_step1")))
/-- what stands behind the turn's if -/
def IfPost (G : Heap) (L sc R S Kp c1 c0 I : Addr) (oi so ro oc1 oc0 tab : Obj) (tl2 : List (Addr × Obj)) (ws : List (Int × Nat)) (i : Nat) (cv : Value) (s1 : Shared) (fl : Flow) (s' : Shared) : Prop :=
  fl = Flow.next ∧ ∃ (kv3 : List Value) (kn3 : Nat) (l3 : List Nat) (h3 : Heap) (tk3 : Nat) (m3 : Str → Option Value), s' = { heap := h3, gens := s1.gens, drawn := s1.drawn, toks := tk3, os := s1.os } ∧ Fr G L h3 m3 ∧ (m3 (Str.ofString "script") = some (.ref sc) ∧ m3 (Str.ofString "row") = some (.ref R) ∧ m3 (Str.ofString "works") = some (.ref S) ∧ m3 (Str.ofString "count") = some cv) ∧
    News G L h3 ((I, oi) :: (Kp, PySem.W.listOf kv3.toArray kn3) :: (S, so) :: (R, ro) :: (c1, oc1) :: (c0, oc0) :: (130, tab) :: tl2) ∧ J2R ws (i + 1) l3 kv3
theorem due_before {rs : List Ent} {ws : List (Int × Nat)} (hws : ws = rs.map fun e => (e.2.1, e.2.2.size)) (hl : rs.Pairwise lexlt) {i : Nat} (hi : i < rs.length) {pl du : Int} {oct : Array UInt8} (he : (pl, du, oct) = rs[i]) : ∀ v ∈ ws.take i, v.1 ≤ du := by
  intro v hv
  rw [hws, ← List.map_take] at hv
  obtain ⟨e, hm, rfl⟩ := List.mem_map.mp hv
  obtain ⟨j, hj⟩ := List.mem_iff_getElem?.mp hm
  have hji : j < i := by
    rcases Nat.lt_or_ge j i with q | q
    · exact q
    · rw [List.getElem?_eq_none (by rw [List.length_take]; omega)] at hj; cases hj
  rw [List.getElem?_take_of_lt hji, List.getElem?_eq_getElem (by omega)] at hj
  have q := List.pairwise_iff_getElem.mp hl j i (by omega) hi hji
  rw [← he, Option.some.inj hj] at q
  unfold lexlt at q
  dsimp only at q ⊢
  omega
set_option maxRecDepth 100000 in
set_option maxHeartbeats 8000000 in
theorem lw : PySem.Challenge.rw_xe0016_01.Holds := hd (by
  k_go0
  all_goals try k_fold
  walk_at "m_toFor"
  rename Fr _ _ _ _ => F0
  refine For_turns F0 ?_
  walk_at "m_toCall"
  rename_i sc svals x31 hLs ra w1 r0 hI hr hcond hct hD h1 tk1 o1 o0 left right X0 X1 T1 K1 l0 R hh9 lR hh8 hh7 W hh5 lW hh3 N0
  obtain ⟨y1, d1⟩ : ∃ x, o1.data = .cell x := ⟨_, left⟩
  obtain ⟨y0, d0⟩ : ∃ x, o0.data = .cell x := ⟨_, right⟩
  clear X0 left right hD hct w1 r0 ra hLs hr
  refine mails_call sc svals _ hI (by omega) _ _ _ _ _ _ _ _ _ _ _ _ _ _ _ _ _ K1 F0 X1 T1 rfl ?_ ?_ ?_ ?_
  · ktr_room
  · ktr_units
  · exact F0.lst lifted
  · rintro v h3 tk3 he ⟨M, mv, mn, mtl, rfl, hmt, hmz, hmi⟩
    rename_i s0 s1 mg0 mb0 G Y fa o9 pm doc ho hg X V T B TE TW hcd ns hs hlay0 hL hr9 hl2 wa wb
    clear hs hlay0 hL hr9 hl2 hcd TW TE B T V X Y G ho
    have F3 := F0.keptAll he
    have N3 := fun q hq => N0.grown he q hq
    dsimp only at F3 N3 F0 N0 hmt
    have hoffM : OwnOff ((M, PySem.W.listOf mv mn) :: mtl) [W, R, s1.heap.objs.size + 1 + 1, s1.heap.objs.size + 1, 130, s1.heap.objs.size] := fun p hp b hb e => by
      have q1 := (hmt p hp).1
      have q2 : ∃ o, hh3.get? b = some o :=
        (sub_cons2 (P := fun b => ∃ o, hh3.get? b = some o) ⟨_, (N0 _ (by k_mem)).1⟩ (sub_cons2 ⟨_, (N0 _ (List.Mem.tail _ (List.Mem.head _))).1⟩ (sub_cons2 ⟨_, (N0 _ (List.Mem.tail _ (List.Mem.tail _ (List.Mem.head _)))).1⟩ (sub_cons2 ⟨_, (N0 _ (List.Mem.tail _ (List.Mem.tail _ (List.Mem.tail _ (List.Mem.head _))))).1⟩ (sub_cons2 ⟨_, (N0 _ (List.Mem.tail _ (List.Mem.tail _ (List.Mem.tail _ (List.Mem.tail _ (List.Mem.head _)))))).1⟩ (sub_cons2 (by obtain ⟨o, _, _, e, _⟩ := F0.ns; exact ⟨o, e⟩) sub_nil2)))))) b hb
      obtain ⟨o, q2⟩ := q2
      rw [e, q2] at q1
      cases q1
    have N4 : News (ghostOf s1.heap [(132, 130)]) s1.heap.objs.size h3 ((M, PySem.W.listOf mv mn) :: (W, PySem.W.listOf #[] 0) :: (R, PySem.W.listOf #[] 0) :: (s1.heap.objs.size + 1 + 1, o1) :: (s1.heap.objs.size + 1, o0) :: (130, tabObj #[]) :: mtl) := fun p hp => by
      have new : ∀ p ∈ (M, PySem.W.listOf mv mn) :: mtl, h3.get? p.1 = some p.2 ∧ p.1 ≠ s1.heap.objs.size ∧ (ghostOf s1.heap [(132, 130)]).get? p.1 = none := fun p hp =>
        ⟨(hmt p hp).2, hoffM p hp s1.heap.objs.size (by simp), fresh_lo (hmt p hp).1 F0.keep⟩
      rcases List.mem_cons.mp hp with rfl | hp
      · exact new _ List.mem_cons_self
      · by_cases hm : p ∈ mtl
        · exact new _ (List.mem_cons_of_mem _ hm)
        · exact N3 p (by simpa [hm] using hp)
    clear F0 N0 N3 hmt he
    walk_at "m_toEnum"
    refine enum_invI (J1 sc M W R (s1.heap.objs.size + 1 + 1) (s1.heap.objs.size + 1) (PySem.W.listOf mv mn) mtl 113 74 (Str.ofString "law.<locals>.<lambda>")) (by rfl) F3 N4 (List.Mem.head _) rfl (vs := mv.toList) (n := mn) rfl ?j0 ?jk ?turn ?done
    case j0 =>
      intro I hI
      refine ⟨#[], #[], 0, 0, o1, o0, y1, y0, tabObj #[], mtl, [], [], rfl, d1, d0, .inl rfl, fun p hp b hb => ?_, fun p hp => hp, ⟨rfl, rfl, rfl⟩, ⟨.nil, .nil, Nat.le_refl _, (fun _ h => nomatch h), .nil, List.Perm.refl _, .nil⟩⟩
      rcases List.mem_cons.mp hb with rfl | hb
      · have q1 := hI p (by simp [hp])
        exact Nat.ne_of_lt (Nat.lt_succ_of_lt q1)
      rcases List.mem_cons.mp hb with rfl | hb
      · exact Nat.ne_of_lt (hI p (by simp [hp]))
      · refine hoffM p (List.mem_cons_of_mem _ hp) b ?_
        simp only [List.mem_cons, List.not_mem_nil, or_false] at hb ⊢
        rcases hb with rfl | rfl | rfl | rfl | rfl <;> simp
    case jk => rintro I i m nw ⟨_, _, _, _, _, _, _, _, _, _, _, _, rfl, _⟩; exact List.Mem.head _
    case turn =>
      intro I i x T t m₁ nw h tk' oe oi hlt hx hJ0
      refine J1.elim hJ0 ?_
      clear hJ0
      rintro wv rv wn rn oc1 oc0 x1 x0 tab tl es rs rfl dc1 dc0 htab hoff hsub mS mR mW hJ hT hoe hoi hI F9 N9
      have hi5 : i < 5 := by rw [Array.length_toList, hmz] at hlt; exact hlt
      have hmx := hmi x (List.mem_of_getElem? hx)
      revert hT
      refine MailIn.elim (P := fun x => IsTup h T #[.int (i : Nat) t, x] → _) hmx ?_
      clear hmx
      intro a f fv t1 t2 t3 t4 d ha hf hfv hd0 hd1 hT
      have iR : @LT.lt Nat _ R I := hI (R, _) (by k_mem)
      have iW : @LT.lt Nat _ W I := hI (W, _) (by k_mem)
      have iM : @LT.lt Nat _ M I := hI (M, _) (by k_mem)
      have ic1 : @LT.lt Nat _ (s1.heap.objs.size + 1 + 1) I := hI (s1.heap.objs.size + 1 + 1, _) (by k_mem)
      have ic0 : @LT.lt Nat _ (s1.heap.objs.size + 1) I := hI (s1.heap.objs.size + 1, _) (by k_mem)
      have iP : @LT.lt Nat _ 130 I := hI (130, _) (by k_mem)
      clear hI F3 N4 hx hlt
      obtain ⟨dr, hdr⟩ : ∃ x, x = d.fmod 6 := ⟨_, rfl⟩
      obtain ⟨ho, hho⟩ : ∃ x, x = (d.fdiv 6).fmod 12 := ⟨_, rfl⟩
      obtain ⟨hf2, hhf2⟩ : ∃ x, x = (d.fdiv 72).fmod 2 := ⟨_, rfl⟩
      obtain ⟨ck, hck⟩ : ∃ x, x = (d.fdiv 144).fmod 48 := ⟨_, rfl⟩
      have ha' : (a, tupObj #[.int dr t1, .int ho t2, .int hf2 t3, .int ck t4, .ref f]) ∈ mtl := by rw [hdr, hho, hhf2, hck]; exact ha
      have b1 : 0 ≤ dr ∧ dr < 6 := by rw [hdr]; exact ⟨Int.fmod_nonneg_of_pos _ (by decide), Int.fmod_lt_of_pos _ (by decide)⟩
      have b2 : 0 ≤ ho ∧ ho < 12 := by rw [hho]; exact ⟨Int.fmod_nonneg_of_pos _ (by decide), Int.fmod_lt_of_pos _ (by decide)⟩
      have b3 : 0 ≤ hf2 ∧ hf2 < 2 := by rw [hhf2]; exact ⟨Int.fmod_nonneg_of_pos _ (by decide), Int.fmod_lt_of_pos _ (by decide)⟩
      have b4 : 0 ≤ ck ∧ ck < 48 := by rw [hck]; exact ⟨Int.fmod_nonneg_of_pos _ (by decide), Int.fmod_lt_of_pos _ (by decide)⟩
      clear hdr hho hhf2 hck ha
      have N10 : News (ghostOf s1.heap [(132, 130)]) s1.heap.objs.size h ((I + 1, oe) :: (I, oi) :: (M, PySem.W.listOf mv mn) :: (W, PySem.W.listOf wv wn) :: (R, PySem.W.listOf rv rn) :: (s1.heap.objs.size + 1 + 1, oc1) :: (s1.heap.objs.size + 1, oc0) :: (130, tab) :: (a, tupObj #[.int dr t1, .int ho t2, .int hf2 t3, .int ck t4, .ref f]) :: (f, lst fv) :: tl) := News.sub N9 (sub_cons (by k_mem) (sub_cons (by k_mem) (sub_cons (by k_mem) (sub_cons (by k_mem) (sub_cons (by k_mem) (sub_cons (by k_mem) (sub_cons (by k_mem) (sub_cons (by k_mem) (sub_cons (List.Mem.tail _ (List.Mem.tail _ (List.Mem.tail _ (List.Mem.tail _ (List.Mem.tail _ (List.Mem.tail _ (List.Mem.tail _ (List.Mem.tail _ (hsub _ ha'))))))))) (sub_cons (List.Mem.tail _ (List.Mem.tail _ (List.Mem.tail _ (List.Mem.tail _ (List.Mem.tail _ (List.Mem.tail _ (List.Mem.tail _ (List.Mem.tail _ (hsub _ hf))))))))) (sub_tl (sub_tl (sub_tl (sub_tl (sub_tl (sub_tl (sub_tl (sub_tl sub_refl))))))))))))))))))
      clear N9
      walk_at "m_toComp"
      rename Fr _ _ _ _ => F11
      rename News _ _ _ _ => N11
      have hfn : IntsAre fv ((fsOf d).map Int.ofNat) := by rw [← figs_nat]; exact hfv
      have hfl := fs_len d
      have hfz : fv.length = (fsOf d).length := by rw [hfn.length, List.length_map]
      refine lc_expr (cl := ?cl1) (fun _ j ys _ => StrsAre ys (((fsOf d).take j).map lineS)) ?k1 (by decide) (by rfl) (by decide) (by rfl) (fun _ _ => .nil) (fun _ _ _ _ _ _ h => h) ?_ ?k2
      case k1 => exact rfl
      case k2 => exact fun _ => rfl
      walk_at "m_toIter"
      refine ask_list (its := fv.toArray) (by rfl) ⟨_, N11.get (by k_mem), rfl, _, rfl⟩ (by rw [PySem.sizeLine_eq, List.size_toArray]; omega) ?at1 ?ad1
      case at1 =>
        intro gg C j v ys m₂ hh tk2 base keepL E' hC hv hJ2 hyl hx F N hE hk
        obtain ⟨k, tkk, hkj, rfl⟩ := ints_atN hfn (show fv[j]? = some v by simpa using hv)
        have hk6 : k < 6 := fs_mem (List.mem_of_getElem? hkj)
        have Xb : (hd.heap_39 _).In base := X1.keeps fun b o e => hE b o (F11.keep b o e)
        have Tb : Top topProg _ _ _ _ base := T1.keeps fun b o e => hE b o (F11.keep b o e)
        clear N11 F11
        dsimp only at hE hC
        obtain ⟨z0, z1⟩ := half3 hk6
        refine wpAny_tests_nil ?_
        rw [if_pos rfl]
        dsimp only
        k_steps
        · refine WEnd.intro (by assumption) (by assumption) (fun p hp => List.Mem.tail _ hp) ?_
          show StrsAre (ys ++ [_]) (((fsOf d).take (j + 1)).map lineS)
          rw [take_mapS _ hkj, lineS_pos (by assumption)]
          exact strs_snoc hJ2 _ _
        · refine WEnd.intro (by assumption) (by assumption) (fun p hp => List.Mem.tail _ hp) ?_
          show StrsAre (ys ++ [_]) (((fsOf d).take (j + 1)).map lineS)
          rw [take_mapS _ hkj, lineS_neg (by assumption)]
          exact strs_snoc hJ2 _ _
      case ad1 =>
        intro gg D1 C1 ys m' hh tk2 hD hDC hn9 hd he hJ2
        refine post_expr F11 N11 hD hDC hn9 hd he (fun h4 F12 N12 l12 e12 e12' => ?_)
        have hJ3 : StrsAre ys ((fsOf d).map lineS) := by
          have e : (fsOf d).take fv.toArray.size = fsOf d := List.take_of_length_le (by rw [List.size_toArray]; omega)
          rw [e] at hJ2; exact hJ2
        clear F11 N11 e12 e12' l12 hJ2 he hd hn9 hD hDC
        dsimp only
        walk_at "m_toJoin"
        refine join_list (items := ys.toArray) ⟨_, N12.get (by k_mem), rfl, _, rfl⟩ hJ3 (text_weight (fsOf d) hfl.2 fun f hf => fs_mem hf) (fun t' k' => ?_)
        walk_at "m_toCall"
        rename Fr _ _ _ _ => F13
        rename News _ _ _ _ => N13
        refine zone_call dr ho hf2 _ _ _ b1.1 b1.2 b2.1 b2.2 b3.1 b3.2 _ _ _ _ _ _ _ _ _ _ _ _ _ _ _ _ _ K1 F13 X1 T1 rfl ?_ ?_ ?_ ?_
        · ktr_room
        · ktr_units
        · trivial
        rintro v h5 tk5 he5 ⟨tz, rfl⟩
        have F14 := F13.keptAll he5
        have N14 : News _ _ _ _ := fun q hq => N13.grown he5 q hq
        clear F13 N13 he5
        try dsimp only at F14 N14
        have hz16 := (off_zoneI b1.1 b1.2 b2.1 b2.2 b3.1 b3.2).1
        obtain ⟨r, hr0⟩ := (off_zoneI b1.1 b1.2 b2.1 b2.2 b3.1 b3.2).2
        have hr1 := hr0.1
        have hr2 := hr0.2.1
        have hr3 := hr0.2.2
        clear hr0
        walk_at "m_toCall"
        refine offset_call (zoneOf dr ho hf2) _ hz16 r hr1 _ _ _ _ _ _ _ _ _ _ _ _ _ _ _ _ _ K1 F14 X1 T1 rfl ?_ ?_ ?_ ?_
        · ktr_room
        · ktr_units
        · trivial
        rintro v h6 tk6 he6 hv6
        have F15 := F14.keptAll he6
        have N15 : News _ _ _ _ := fun q hq => N14.grown he6 q hq
        clear F14 N14 he6
        try dsimp only at F15 N15
        by_cases hd5 : dr = 5
        · rw [hr2 hd5] at hv6
          obtain rfl : v = .none := hv6
          k_steps
          rename Fr _ _ _ _ => F16
          rename News _ _ _ _ => N16
          refine unr_endI F16 N16 ((M, PySem.W.listOf mv mn) :: (W, PySem.W.listOf wv wn) :: (R, PySem.W.listOf rv rn) :: (s1.heap.objs.size + 1 + 1, oc1) :: (s1.heap.objs.size + 1, oc0) :: (130, tab) :: tl) (by k_mem) (by k_mem) ?us1 (off_six iM iW iR ic1 ic0 iP hoff) ⟨wv, rv, wn, rn, oc1, oc0, x1, x0, tab, tl, es, rs, rfl, dc1, dc0, htab, hoff, hsub, ⟨mS, mR, mW⟩, hJ.next⟩
          case us1 =>
            refine sub_cons (by k_mem) (sub_cons (by k_mem) (sub_cons (by k_mem) (sub_cons (by k_mem) (sub_cons (by k_mem) (sub_cons (by k_mem) ?_)))))
            repeat (first | exact sub_refl | refine sub_tl ?_)
        · obtain ⟨o, rfl, hdue⟩ := hr3 hd5
          obtain ⟨to, rfl⟩ : ∃ t, v = .int o t := hv6
          walk_at "m_toComp"
          rename Fr _ _ _ _ => F16
          rename News _ _ _ _ => N16
          refine lc_expr (cl := ?cl3) (fun _ j zs _ => IntsAre zs (((fixOf (fsOf d)).take j).map Int.ofNat)) ?k3 (by decide) (by rfl) (by decide) (by rfl) (fun _ _ => .nil) (fun _ _ _ _ _ _ h => h) ?_ ?k4
          case k3 => exact rfl
          case k4 => exact fun _ => rfl
          walk_at "m_toCall"
          refine fix_call _ _ (fsOf d) (textS_cps (fsOf d) fun f hf => fs_mem hf) (fun f hf => fs_mem hf) hfl.2 _ _ _ _ _ _ _ _ _ _ _ _ _ _ _ _ _ K1 F16 X1 T1 rfl ?_ ?_ ?_ ?_
          · ktr_room
          · ktr_units
          · trivial
          rintro v h7 tk7 he7 ⟨y, ty, rfl, hy⟩
          have F17 := F16.keptAll he7
          have N17 : News _ _ _ _ := fun q hq => N16.grown he7 q hq
          clear F16 N16 he7
          try dsimp only at F17 N17
          have hyl := fix_len (fsOf d) hfl.2
          rw [← hy, Array.length_toList] at hyl
          walk_at "m_toIter"
          refine ask_str (by rfl) (by rw [PySem.sizeLine_eq]; omega) ?bt ?bd
          case bt =>
            intro gg C j v zs m₂ hh3 tk3 base keepL E' hC hv hJ4 hyl2 hx F N hE hk
            obtain ⟨c, cu, hcj, rfl⟩ := hv
            have Xb : (hd.heap_39 _).In base := X1.keeps fun b o e => hE b o (F17.keep b o e)
            have Tb : Top topProg _ _ _ _ base := T1.keeps fun b o e => hE b o (F17.keep b o e)
            clear N17 F17
            dsimp only at hE hC
            refine wpAny_tests_nil ?_
            rw [if_pos rfl]
            dsimp only
            k_steps
            refine WEnd.intro (by assumption) (by assumption) (fun p hp => hp) ?_
            show IntsAre (zs ++ [_]) (((fixOf (fsOf d)).take (j + 1)).map Int.ofNat)
            rw [take_mapS _ (k := c) (by rw [← hy]; simpa using hcj)]
            exact ksk_snoc hJ4
          case bd =>
            intro gg D2 C2 zs m' hh3 tk3 hD hDC hn9 hd he hJ4
            refine post_expr F17 N17 hD hDC hn9 hd he (fun h8 F18 N18 l18 e18 e18' => ?_)
            have hJ5 : IntsAre zs ((fixOf (fsOf d)).map Int.ofNat) := by
              have e : (fixOf (fsOf d)).take y.cps.size = fixOf (fsOf d) := List.take_of_length_le (by rw [← hy]; simp)
              rw [e] at hJ4; exact hJ4
            clear F17 N17 e18 e18' l18 hJ4 he hd hn9 hD hDC
            dsimp only
            walk_at "m_toBytes"
            refine bytes_K (vs := zs) F18 N18 ⟨_, N18.get (by k_mem), rfl, _, rfl⟩ hJ5 fix_rangeI (by rw [hJ5.length, List.length_map, PySem.sizeLine_eq]; have := fix_len (fsOf d) hfl.2; omega) (by rfl) ?_
            rintro h9 tb kb F19 N19 _
            clear F18 N18
            walk_at "m_toCall"
            refine quote_call _ _ (fsOf d) (fixB_nat fun c hc => fix_small hc) hfl.1 hfl.2 _ _ _ _ _ _ _ _ _ _ _ _ _ _ _ _ _ K1 F19 X1 T1 rfl ?_ ?_ ?_ ?_
            · ktr_room
            · ktr_units
            · trivial
            rintro v h10 tk10 he10 ⟨oct, toc, rfl, hoct⟩
            have F20 := F19.keptAll he10
            have N20 : News _ _ _ _ := fun q hq => N19.grown he10 q hq
            clear F19 N19 he10
            try dsimp only at F20 N20
            walk_at "m_toLam"
            rename_i D3 h11 F21 N21 l21
            have g1 := l21.2.2.1
            have g2 := l21.2.2.2.1
            have g3 := l21.2.2.2.2.1
            have g4 := l21.2.2.2.2.2.1
            have g5 := l21.2.2.2.2.2.2.1
            have g6 := l21.2.2.2.2.2.2.2.1
            have g7 := l21.2.2.2.2.2.2.2.2.1
            have g8 := l21.2.2.2.2.2.2.2.2.2.1
            have g9 := l21.2.2.2.2.2.2.2.2.2.2.1
            have g10 := l21.2.2.2.2.2.2.2.2.2.2.2
            obtain ⟨tt, N22⟩ : ∃ tt, News (ghostOf s1.heap [(132, 130)]) s1.heap.objs.size h11 ((130, tab) :: (D3, tupO #[.int ((i : Nat) : Int) t, .int (ck * 1800 - o) tt, .bytes oct toc]) :: (I + 1, oe) :: (I, oi) :: (M, PySem.W.listOf mv mn) :: (W, PySem.W.listOf wv wn) :: (R, PySem.W.listOf rv rn) :: (s1.heap.objs.size + 1 + 1, oc1) :: (s1.heap.objs.size + 1, oc0) :: (f, lst fv) :: tl) := by
              exact ⟨_, News.sub N21 (sub_cons (by k_mem) (sub_cons (List.Mem.head _) (sub_cons (by k_mem) (sub_cons (by k_mem) (sub_cons (by k_mem) (sub_cons (by k_mem) (sub_cons (by k_mem) (sub_cons (by k_mem) (sub_cons (by k_mem) (sub_cons (by k_mem) ((sub_tl (sub_tl (sub_tl (sub_tl (sub_tl (sub_tl (sub_tl (sub_tl (sub_tl (sub_tl (sub_tl (sub_tl (sub_tl sub_refl))))))))))))))))))))))))⟩
            clear N21
            have hoffP : ∀ q ∈ ((D3, tupO #[.int ((i : Nat) : Int) t, .int (ck * 1800 - o) tt, .bytes oct toc]) :: (I + 1, oe) :: (I, oi) :: (M, PySem.W.listOf mv mn) :: (W, PySem.W.listOf wv wn) :: (R, PySem.W.listOf rv rn) :: (s1.heap.objs.size + 1 + 1, oc1) :: (s1.heap.objs.size + 1, oc0) :: (f, lst fv) :: tl : List (Addr × Obj)), q.1 ≠ 130 := by
              have z1 := hoffM (M, _) List.mem_cons_self 130 (by simp)
              have z2 := hoffM (f, _) (List.mem_cons_of_mem _ hf) 130 (by simp)
              refine List.forall_mem_cons.mpr ⟨neGt g8, List.forall_mem_cons.mpr ⟨neGt (Nat.lt_succ_of_lt iP), List.forall_mem_cons.mpr ⟨neGt iP, List.forall_mem_cons.mpr ⟨z1, List.forall_mem_cons.mpr ⟨neGt lW.2.2.2, List.forall_mem_cons.mpr ⟨neGt lR.2.2, List.forall_mem_cons.mpr ⟨neGt (by have q := l0; omega), List.forall_mem_cons.mpr ⟨neGt (by have q := l0; omega), List.forall_mem_cons.mpr ⟨z2, fun p hp => hoff p hp 130 (by k_mem)⟩⟩⟩⟩⟩⟩⟩⟩⟩
            refine lam_any (ql := Str.ofString "law.<locals>.<lambda>") F21 N22 hoffP T1 codeHd rfl ?_ htab rfl ?_
            · repeat (first | exact sub_refl | refine sub_tl ?_)
            intro flam h12 tk12 tab' ex F23 N23 htab2 hlam lex
            clear F21 N22 hoffP
            walk_at "m_toCall"
            have iR1 : @LT.lt Nat _ R (I + 1) := Nat.lt_succ_of_lt iR
            refine insR_call R flam D3 (.int ((i : Nat) : Int) t) (.bytes oct toc) (ck * 1800 - o) tt rv (rs.map (·.2.1)) (by have := hJ.perm.length_eq; have := hJ.len; rw [List.length_map]; omega) (sorted_due hJ.lex) _ _ _ _ _ _ _ _ _ _ _ _ _ _ _ _ _ rn K1 F23 X1 T1 rfl ?_ ?_ ?_ ?_ ?_
            · ktr_room
            · ktr_units
            · exact News.sub N23 (sub_cons (mem_ap (by k_mem)) sub_nil)
            · exact ⟨hlam, ⟨_, (N23 (D3, tupO #[.int ((i : Nat) : Int) t, .int (ck * 1800 - o) tt, .bytes oct toc]) (mem_ap (by k_mem))).1, rfl, _, rfl⟩, rowAt_of (tl := tl) (fun p hp => (N23 p (by simp [hp])).1) hJ.row⟩
            intro items' e13 h13 tk13 hk13 ho13 ⟨p, hp, hbis, hit⟩
            have hR23 := N23 (R, PySem.W.listOf rv rn) (mem_ap (by k_mem))
            have F24 := Fr.mut F23 hR23.2.1 hR23.2.2 hk13
            obtain ⟨tl2, htl2⟩ : ∃ l, l = (D3, tupO #[.int ((i : Nat) : Int) t, .int (ck * 1800 - o) tt, .bytes oct toc]) :: (ex ++ tl) := ⟨_, rfl⟩
            have hst : ∀ p ∈ tl, p ∈ tl2 := fun p hp => by rw [htl2]; simp [hp]
            have hD3 : (D3, tupO #[.int ((i : Nat) : Int) t, .int (ck * 1800 - o) tt, .bytes oct toc]) ∈ tl2 := by rw [htl2]; exact List.Mem.head _
            have htab3 : TabSt 113 74 (Str.ofString "law.<locals>.<lambda>") tab' tl2 := htab2.mono fun p hp => by rw [htl2]; exact List.Mem.tail _ hp
            have hoff2 : OwnOff tl2 [I + 1, I, W, R, s1.heap.objs.size + 1 + 1, s1.heap.objs.size + 1, 130] := fun p hp b hb => by
              rw [htl2] at hp
              rcases List.mem_cons.mp hp with rfl | hp
              · exact sub_cons2 (P := fun b => @Ne Nat D3 b) (neGt g1) (sub_cons2 (neGt g2) (sub_cons2 (neGt g4) (sub_cons2 (neGt g5) (sub_cons2 (neGt g6) (sub_cons2 (neGt g7) (sub_cons2 (neGt g8) sub_nil2)))))) b hb
              rcases List.mem_append.mp hp with hp | hp
              · have q := lex p hp
                exact sub_cons2 (P := fun b => @Ne Nat p.1 b) (neGt (q (I + 1, oe) (by k_mem))) (sub_cons2 (neGt (q (I, oi) (by k_mem))) (sub_cons2 (neGt (q (W, PySem.W.listOf wv wn) (by k_mem))) (sub_cons2 (neGt (q (R, PySem.W.listOf rv rn) (by k_mem))) (sub_cons2 (neGt (q (s1.heap.objs.size + 1 + 1, oc1) (by k_mem))) (sub_cons2 (neGt (q (s1.heap.objs.size + 1, oc0) (by k_mem))) (sub_cons2 (neGt (q (130, tab) (by k_mem))) sub_nil2)))))) b hb
              · exact hoff p hp b hb
            have N24 : News (ghostOf s1.heap [(132, 130)]) s1.heap.objs.size h13 ((I + 1, oe) :: (I, oi) :: (M, PySem.W.listOf mv mn) :: (W, PySem.W.listOf wv wn) :: (R, PySem.W.listOf items' e13) :: (s1.heap.objs.size + 1 + 1, oc1) :: (s1.heap.objs.size + 1, oc0) :: (130, tab') :: (f, lst fv) :: tl2) := by
              have z1 := hoffM (M, _) List.mem_cons_self R (by k_mem)
              have z2 := hoffM (f, _) (List.mem_cons_of_mem _ hf) R (by simp)
              refine News.swap N23 (o := PySem.W.listOf rv rn) (mem_ap (by k_mem)) hk13 ho13 ?_
              refine sub_cons2 (.inr ⟨mem_ap (by k_mem), neGt iR1⟩) (sub_cons2 (.inr ⟨mem_ap (by k_mem), neGt iR⟩) (sub_cons2 (.inr ⟨mem_ap (by k_mem), z1⟩) (sub_cons2 (.inr ⟨mem_ap (by k_mem), neGt lW.1⟩) (sub_cons2 (.inl rfl) (sub_cons2 (.inr ⟨mem_ap (by k_mem), neLt lR.1⟩) (sub_cons2 (.inr ⟨mem_ap (by k_mem), neLt lR.2.1⟩) (sub_cons2 (.inr ⟨List.Mem.head _, neLt lR.2.2⟩) (sub_cons2 (.inr ⟨mem_ap (by k_mem), z2⟩) fun p hp => .inr ⟨?_, hoff2 p hp R (by k_mem)⟩))))))))
              rw [htl2] at hp
              simp only [List.mem_cons, List.mem_append] at hp ⊢
              rcases hp with hp | hp | hp <;> simp [hp]
            have hrow := row_ins hJ hst hD3 hbis hit
            clear N23 F23 lex htab2 hk13 ho13 hR23 hlam g1 g2 g3 g4 g5 g6 g7 g8 g9 g10
            walk_at "m_toComp"
            refine lc_expr (cl := ?cl6) (fun _ j zs _ => BytesAre zs (((fsOf d).take j).map toldB)) ?k6 (by decide) (by rfl) (by decide) (by rfl) (fun _ _ => .nil) (fun _ _ _ _ _ _ h => h) ?_ ?k7
            case k6 => exact rfl
            case k7 => exact fun _ => rfl
            walk_at "m_toIter"
            refine ask_list (its := fv.toArray) (by rfl) ⟨_, N24.get (by k_mem), rfl, _, rfl⟩ (by rw [PySem.sizeLine_eq, List.size_toArray]; omega) ?ct1 ?cd1
            case ct1 =>
              intro gg C j v zs m₂ hh tk2 base keepL E' hC hv hJ2 hyl hx F N hE hk
              obtain ⟨k, tkk, hkj, rfl⟩ := ints_atN hfn (show fv[j]? = some v by simpa using hv)
              have Xb : (hd.heap_39 _).In base := X1.keeps fun b o e => hE b o (F24.keep b o e)
              have Tb : Top topProg _ _ _ _ base := T1.keeps fun b o e => hE b o (F24.keep b o e)
              clear N24 F24
              dsimp only at hE hC
              refine wpAny_tests_nil ?_
              rw [if_pos rfl]
              dsimp only
              k_steps
              · refine WEnd.intro (by assumption) (by assumption) (fun p hp => hp) ?_
                show BytesAre (zs ++ [_]) (((fsOf d).take (j + 1)).map toldB)
                rw [take_mapS _ hkj, toldB_pos (by assumption)]
                exact bytes_snoc hJ2 _ _
              · refine WEnd.intro (by assumption) (by assumption) (fun p hp => hp) ?_
                show BytesAre (zs ++ [_]) (((fsOf d).take (j + 1)).map toldB)
                rw [take_mapS _ hkj, toldB_neg (by assumption)]
                exact bytes_snoc hJ2 _ _
            case cd1 =>
              intro gg D4 C4 zs m' hh tk2 hD hDC hn9 hd he hJ2
              refine post_expr F24 N24 hD hDC hn9 hd he (fun h14 F25 N25 l25 e25 e25' => ?_)
              have hJ3 : BytesAre zs ((fsOf d).map toldB) := by
                have e : (fsOf d).take fv.toArray.size = fsOf d := List.take_of_length_le (by rw [List.size_toArray]; omega)
                rw [e] at hJ2; exact hJ2
              clear F24 N24 e25 e25' l25 hJ2 he hd hn9 hD hDC
              dsimp only
              walk_at "m_toBJoin"
              refine bytes_join (items := zs.toArray) ⟨_, N25.get (by k_mem), rfl, _, rfl⟩ hJ3 (told_weight (fsOf d) hfl.2) (fun t' k' => ?_)
              rw [told_eq hoct]
              walk_at "m_toCall"
              rename Fr _ _ _ _ => F26
              rename News _ _ _ _ => N26
              refine due_call dr ho hf2 ck _ _ _ _ b1.1 (lt5_of b1.2 hd5) b2.1 b2.2 b3.1 b3.2 b4.1 b4.2 _ _ _ _ _ _ _ _ _ _ _ _ _ _ _ _ _ K1 F26 X1 T1 rfl ?_ ?_ ?_ ?_
              · ktr_room
              · ktr_units
              · trivial
              rintro v h15 tk15 he15 ⟨td, rfl⟩
              have F27 := F26.keptAll he15
              have N27 : News _ _ _ _ := fun q hq => N26.grown he15 q hq
              clear F26 N26 he15
              try dsimp only at F27 N27
              walk_at "m_toAppend"
              rename_i D5 h16 F28 N28 l28
              have g1 := l28.2.1
              have g2 := l28.2.2.1
              have g3 := l28.2.2.2.1
              have g4 := l28.2.2.2.2.1
              have g5 := l28.2.2.2.2.2.1
              have g6 := l28.2.2.2.2.2.2.1
              have g7 := l28.2.2.2.2.2.2.2.1
              have g8 := l28.2.2.2.2.2.2.2.2.1
              rw [← hdue ck] at N28
              obtain ⟨tt2, tt3, N29⟩ : ∃ tt2 tt3, News (ghostOf s1.heap [(132, 130)]) s1.heap.objs.size h16 ((D5, tupO #[.int (ck * 1800 - o) tt2, .int ((i : Nat) : Int) t, .bytes oct tt3]) :: (I + 1, oe) :: (I, oi) :: (M, PySem.W.listOf mv mn) :: (W, PySem.W.listOf wv wn) :: (R, PySem.W.listOf items' e13) :: (s1.heap.objs.size + 1 + 1, oc1) :: (s1.heap.objs.size + 1, oc0) :: (130, tab') :: tl2) := by
                exact ⟨_, _, News.sub N28 (sub_cons (List.Mem.head _) (sub_cons (by k_mem) (sub_cons (by k_mem) (sub_cons (by k_mem) (sub_cons (by k_mem) (sub_cons (by k_mem) (sub_cons (by k_mem) (sub_cons (by k_mem) (sub_cons (by k_mem) ((sub_tl (sub_tl (sub_tl (sub_tl (sub_tl (sub_tl (sub_tl (sub_tl (sub_tl (sub_tl (sub_tl sub_refl)))))))))))))))))))))⟩
              clear N28
              have hW29 := N29 (W, PySem.W.listOf wv wn) (by k_mem)
              refine append_at (hsz := by rw [PySem.sizeLine_eq]; have q1 := hJ.works.length; rw [Array.length_toList] at q1; have q2 := hJ.len; omega) hW29.1 fun h17 hs17 ho17 => ?_
              have F30 := F28.change hs17 hW29.2.1 hW29.2.2
              have N30 : News (ghostOf s1.heap [(132, 130)]) s1.heap.objs.size h17 ((I + 1, oe) :: (I, oi) :: (M, PySem.W.listOf mv mn) :: (W, PySem.W.listOf (wv.push (.ref D5)) (wn + 1)) :: (R, PySem.W.listOf items' e13) :: (s1.heap.objs.size + 1 + 1, oc1) :: (s1.heap.objs.size + 1, oc0) :: (130, tab') :: (D5, tupO #[.int (ck * 1800 - o) tt2, .int ((i : Nat) : Int) t, .bytes oct tt3]) :: tl2) := by
                have z1 := hoffM (M, _) List.mem_cons_self W (by k_mem)
                refine News.swap N29 (o := PySem.W.listOf wv wn) (by k_mem) (fun b x hb e => hs17.extBut b x hb e) ho17 ?_
                exact sub_cons2 (.inr ⟨by k_mem, neGt (Nat.lt_succ_of_lt iW)⟩) (sub_cons2 (.inr ⟨by k_mem, neGt iW⟩) (sub_cons2 (.inr ⟨by k_mem, z1⟩) (sub_cons2 (.inl rfl) (sub_cons2 (.inr ⟨by k_mem, neLt lW.1⟩) (sub_cons2 (.inr ⟨by k_mem, neLt lW.2.1⟩) (sub_cons2 (.inr ⟨by k_mem, neLt lW.2.2.1⟩) (sub_cons2 (.inr ⟨by k_mem, neLt lW.2.2.2⟩) (sub_cons2 (.inr ⟨List.Mem.head _, neGt g4⟩) fun p hp => .inr ⟨(sub_tl (sub_tl (sub_tl (sub_tl (sub_tl (sub_tl (sub_tl (sub_tl (sub_tl sub_refl))))))))) p hp, hoff2 p hp W (by k_mem)⟩))))))))
              clear N29 F28 hW29 hs17 ho17
              k_steps
              rename Fr _ _ _ _ => F31
              rename News _ _ _ _ => N31
              have hoff3 : OwnOff ((D5, tupO #[.int (ck * 1800 - o) tt2, .int ((i : Nat) : Int) t, .bytes oct tt3]) :: tl2) [I + 1, I, W, R, s1.heap.objs.size + 1 + 1, s1.heap.objs.size + 1, 130] := fun p hp b hb => by
                rcases List.mem_cons.mp hp with rfl | hp
                · exact sub_cons2 (P := fun b => @Ne Nat D5 b) (neGt g1) (sub_cons2 (neGt g2) (sub_cons2 (neGt g4) (sub_cons2 (neGt g5) (sub_cons2 (neGt g6) (sub_cons2 (neGt g7) (sub_cons2 (neGt g8) sub_nil2)))))) b hb
                · exact hoff2 p hp b hb
              refine unr_endI F31 N31 ((M, PySem.W.listOf mv mn) :: (W, PySem.W.listOf (wv.push (.ref D5)) (wn + 1)) :: (R, PySem.W.listOf items' e13) :: (s1.heap.objs.size + 1 + 1, oc1) :: (s1.heap.objs.size + 1, oc0) :: (130, tab') :: (D5, tupO #[.int (ck * 1800 - o) tt2, .int ((i : Nat) : Int) t, .bytes oct tt3]) :: tl2) (by k_mem) (by k_mem) (sub_tl (sub_tl sub_refl)) (off_six iM iW iR ic1 ic0 iP hoff3) ⟨wv.push (.ref D5), items', wn + 1, e13, oc1, oc0, x1, x0, tab', (D5, tupO #[.int (ck * 1800 - o) tt2, .int ((i : Nat) : Int) t, .bytes oct tt3]) :: tl2, es ++ [(((i : Nat) : Int), ck * 1800 - o, oct)], _, rfl, dc1, dc0, htab3.mono (sub_tl sub_refl), hoff3, fun p hp => List.Mem.tail _ (hst p (hsub p hp)), ⟨mS, mR, mW⟩, hJ.put (sub_tl hst) (oct_size hoct hfl.2) (List.Mem.head _) (hrow.1.mono fun a b x => x.mono (sub_tl sub_refl)) hrow.2.1 hrow.2.2⟩
    case done =>
      intro I m₁ nw h tk' hJ0
      refine J1.elim hJ0 ?_
      clear hJ0
      rintro wv rv wn rn oc1 oc0 x1 x0 tab tl es rs rfl dc1 dc0 htab hoff hsub mS mR mW hJ F9 N9
      clear F3 N4
      have hJl : es.length ≤ 5 := by
        have q : mv.toList.length = 5 := by rw [Array.length_toList]; exact hmz
        have q2 := hJ.len
        rw [q] at q2; exact q2
      have hrl : rs.length ≤ 5 := by rw [hJ.perm.length_eq]; exact hJl
      walk_at "m_toSorted"
      have F10 : Fr (ghostOf s1.heap [(132, 130)]) s1.heap.objs.size h m₁ := F9
      have N10 : News (ghostOf s1.heap [(132, 130)]) s1.heap.objs.size h ((M, PySem.W.listOf mv mn) :: (W, PySem.W.listOf wv wn) :: (R, PySem.W.listOf rv rn) :: (s1.heap.objs.size + 1 + 1, oc1) :: (s1.heap.objs.size + 1, oc0) :: (130, tab) :: tl) := N9
      clear F9 N9
      refine sorted_works (tl := tl) (vs := wv.toList) F10 N10 (sub_tl (sub_tl (sub_tl (sub_tl (sub_tl (sub_tl sub_refl)))))) ⟨_, N10.get (by k_mem), rfl, _, rfl⟩ hJ.works hJl hJ.incr fun S vs' es' sn h2 F11 N11 l11 hall hperm hlex => ?_
      rw [lex_uniq (hperm.trans hJ.perm.symm) hlex hJ.lex] at hall
      have lS : @LT.lt Nat _ W S := l11 (W, _) (by k_mem)
      have lS2 : @LT.lt Nat _ R S := l11 (R, _) (by k_mem)
      have lS3 : @LT.lt Nat _ (s1.heap.objs.size + 1) S := l11 (s1.heap.objs.size + 1, _) (by k_mem)
      have lS4 : @LT.lt Nat _ (s1.heap.objs.size + 1 + 1) S := l11 (s1.heap.objs.size + 1 + 1, _) (by k_mem)
      have lS5 : @LT.lt Nat _ 130 S := l11 (130, _) (by k_mem)
      have lStl : ∀ p ∈ tl, @LT.lt Nat _ p.1 S := fun p hp => l11 p (sub_tl (sub_tl (sub_tl (sub_tl (sub_tl (sub_tl sub_refl))))) p hp)
      clear hperm hlex F10 N10 l11
      dsimp only
      walk_at "m_toComp"
      rename Fr _ _ _ _ => F12
      rename News _ _ _ _ => N12
      have hSn : vs'.length = rs.length := hall.length
      refine lc_expr (cl := ?cl8) (fun C j ys hh => All2 (NewTups C hh) ys (rs.take j)) ?k8 (by decide) (by rfl) (by decide) (by rfl) (fun _ _ => .nil) (fun _ _ _ _ _ hk hj => NewTups.keeps hj hk) ?_ ?k9
      case k8 => exact rfl
      case k9 => exact fun _ => rfl
      walk_at "m_toIter"
      refine ask_list (its := vs'.toArray) (by rfl) ⟨_, N12.get (by k_mem), rfl, _, rfl⟩ (by rw [PySem.sizeLine_eq, List.size_toArray]; omega) ?et1 ?ed1
      case et1 =>
        intro gg C j v ys m₂ hh tk2 base keepL E' hC hv hJ2 hyl hx F N hE hk
        obtain ⟨e, hej, a, q1, q2, q3, rfl, hm⟩ := hall.at' (show vs'[j]? = some v by simpa using hv)
        have hT : IsTup base a #[.int e.2.1 q2, .int e.1 q1, .bytes e.2.2 q3] := ⟨_, hE _ _ (N12 (a, tupO #[.int e.2.1 q2, .int e.1 q1, .bytes e.2.2 q3]) (by simp [hm])).1, rfl, _, rfl⟩
        have Xb : (hd.heap_39 _).In base := X1.keeps fun b o e => hE b o (F12.keep b o e)
        have Tb : Top topProg _ _ _ _ base := T1.keeps fun b o e => hE b o (F12.keep b o e)
        clear N12 F12
        dsimp only at hE hC
        refine wpAny_tests_nil ?_
        rw [if_pos rfl]
        dsimp only
        walk_at "m_toNewTup"
        rename Fr _ _ _ _ => F13
        rename News _ _ _ _ => N13
        refine newTuple_N F13 N13 (fun h' F' N' => ?_)
        refine WEnd.intro F' N' (fun p hp => List.Mem.tail _ hp) ?_
        show All2 (NewTups C h') (ys ++ [_]) (rs.take (j + 1))
        rw [List.take_add_one, hej]
        exact (NewTups.keeps hJ2 (fun b o hb eb => (N' _ (List.Mem.tail _ (hk b o hb eb))).1)).append (.cons ⟨_, q1, q2, q3, rfl, F13.ns.lt, (N' _ (List.Mem.head _)).1⟩ .nil)
      case ed1 =>
        intro gg D2 C2 ys m' hh tk2 hD hDC hn9 hd he hJ2
        refine post_expr F12 N12 hD hDC hn9 hd he (fun h4 F14 N14 l14 e14 e14' => ?_)
        have hJ3 : All2 (TupAt h4) ys rs := by
          have e : rs.take vs'.toArray.size = rs := List.take_of_length_le (by rw [List.size_toArray]; omega)
          rw [e] at hJ2
          exact newTups_tup hJ2 fun b o hb eb => e14' b o (neGt hb) eb
        clear F12 N12 e14 e14' hJ2 he hd hn9 hD hDC
        dsimp only
        walk_at "m_toNe"
        refine rows_same (rv := rv) (ys := ys.toArray) (rs := rs) ⟨_, N14.get (by k_mem), rfl, _, rfl⟩ ⟨_, N14.get (by k_mem), rfl, _, rfl⟩ (rowIn_tup (tl := tl) (fun p hp => (N14 p (by simp [hp])).1) hJ.row) hJ3 (by ktr_units) (by ktr_units) ?_
        have N15 : News (ghostOf s1.heap [(132, 130)]) s1.heap.objs.size h4 ((S, PySem.W.listOf vs'.toArray sn) :: (R, PySem.W.listOf rv rn) :: (s1.heap.objs.size + 1 + 1, oc1) :: (s1.heap.objs.size + 1, oc0) :: (130, tab) :: tl) :=
          News.sub N14 (sub_cons (by k_mem) (sub_cons (by k_mem) (sub_cons (by k_mem) (sub_cons (by k_mem) (sub_cons (by k_mem) (sub_tl (sub_tl (sub_tl (sub_tl (sub_tl (sub_tl (sub_tl (sub_tl sub_refl)))))))))))))
        have lDtl : ∀ p ∈ tl, @LT.lt Nat _ p.1 D2 := fun p hp => l14 p (sub_tl (sub_tl (sub_tl (sub_tl (sub_tl (sub_tl (sub_tl sub_refl)))))) p hp)
        clear N14 l14
        have ad1 : @LT.lt Nat _ (s1.heap.objs.size + 1) R := lR.2.1
        have ad2 : @LT.lt Nat _ (s1.heap.objs.size + 1 + 1) R := lR.1
        have ad3 : @LT.lt Nat _ 130 R := lR.2.2
        have hrz : rv.size = rs.length := by rw [← hJ.row.length, Array.length_toList]
        have hr63 : (rv.size : Int) < 2 ^ 63 := small63 (by rw [hrz]; exact Nat.le_trans hrl (by decide))
        walk_at "m_toFor"
        rename Fr _ _ _ _ => F15
        refine For_turns F15 ?_
        walk_at "m_toIter"
        rename_i Kp zK2 lK zK3 oc2 dK zt1 Ds zK5 lDs zK6 zt2 Dl zK7 lDl zK8 F16 N16 hh20 tk20 tr1 tr2 tr3 hR20 F20 N20 e20
        clear F16 N16 e20
        have N21 : News (ghostOf s1.heap [(132, 130)]) s1.heap.objs.size hh20 ((Kp, PySem.W.listOf ([] : List Value).toArray 0) :: (S, PySem.W.listOf vs'.toArray sn) :: (R, PySem.W.listOf rv rn) :: (s1.heap.objs.size + 1 + 1, oc1) :: (s1.heap.objs.size + 1, oc2) :: (130, tab) :: (Dl, PySem.W.listOf [Value.int 0 zt2].toArray 0) :: (Ds, PySem.W.listOf [Value.int 0 zt1].toArray 0) :: tl) := by
          exact News.sub N20 (sub_cons (by k_mem) (sub_cons (by k_mem) (sub_cons (by k_mem) (sub_cons (by k_mem) (sub_cons (by k_mem) (sub_cons (by k_mem) (sub_cons (by k_mem) (sub_cons (by k_mem) (sub_tl (sub_tl (sub_tl (sub_tl (sub_tl (sub_tl (sub_tl (sub_tl sub_refl))))))))))))))))
        clear N20
        obtain ⟨ws, hws⟩ : ∃ ws : List (Int × Nat), ws = rs.map fun e => (e.2.1, e.2.2.size) := ⟨_, rfl⟩
        refine range_invI (n := rs.length) (J2 sc Kp S R (s1.heap.objs.size + 1 + 1) (s1.heap.objs.size + 1) (PySem.W.listOf vs'.toArray sn) (PySem.W.listOf rv rn) oc1 oc2 tab tl ws) (by rfl) F20 N21 hR20 (small_one (by decide) (by decide) (by omega) (by omega)) (by rw [rangeSize_nat]; omega) ?j20 ?turn2 ?done2
        case j20 =>
          intro I hI
          refine ⟨[], 0, [], (Dl, PySem.W.listOf [Value.int 0 zt2].toArray 0) :: (Ds, PySem.W.listOf [Value.int 0 zt1].toArray 0) :: tl, [Value.int 0 zt1], [Value.int 0 zt2], Ds, Dl, 0, 0, rfl, fun p hp b hb => ?_, sub_tl (sub_tl sub_refl), ⟨mS, mR, rfl, rfl, rfl⟩, List.Mem.tail _ (List.Mem.head _), List.Mem.head _, .cons _ _ .nil, .cons _ _ .nil, ⟨.nil, .nil, (fun _ h => nomatch h), Kept.nil⟩⟩
          have hpI : @LT.lt Nat _ p.1 I := hI p (sub_tl (sub_tl (sub_tl (sub_tl (sub_tl (sub_tl sub_refl))))) p hp)
          simp only [List.mem_cons, List.not_mem_nil, or_false] at hb
          rcases hb with hb | hb | hb <;> rw [hb]
          · exact neLt hpI
          · rcases List.mem_cons.mp hp with rfl | hp
            · exact neGt lDl.2.1
            rcases List.mem_cons.mp hp with rfl | hp
            · exact neGt lDs.1
            · exact neLt (Nat.lt_trans (lStl p hp) lK.1)
          · rcases List.mem_cons.mp hp with rfl | hp
            · exact neGt lDl.2.2.2.2.1
            rcases List.mem_cons.mp hp with rfl | hp
            · exact neGt lDs.2.2.2.1
            · exact hoff p hp _ (by simp)
        case turn2 =>
          intro I i t m₁ nw h tk' oi hi hJ0
          refine J2.elim hJ0 ?_
          clear hJ0
          rintro kv kn l tl2 sv lv Ds Dl en ln rfl hoff2 hsub2 mS2 mR2 mW2 mSu mLe hDs hDl hsv hlv hJ2 hoi hI F30 N30
          have hiz : i < rs.length := hi
          have iK : @LT.lt Nat _ Kp I := hI (Kp, _) (by k_mem)
          have iS : @LT.lt Nat _ S I := hI (S, _) (by k_mem)
          have iR : @LT.lt Nat _ R I := hI (R, _) (by k_mem)
          have ic1 : @LT.lt Nat _ (s1.heap.objs.size + 1 + 1) I := hI (s1.heap.objs.size + 1 + 1, _) (by k_mem)
          have ic0 : @LT.lt Nat _ (s1.heap.objs.size + 1) I := hI (s1.heap.objs.size + 1, _) (by k_mem)
          have iP : @LT.lt Nat _ 130 I := hI (130, _) (by k_mem)
          clear hI F20 N21
          refine row_elim hJ.row hiz ?_
          intro pl du oct a0 t1 t2 t3 hen0 hrv0 hm0
          have hob : oct.size ≤ 100 := (hJ.place (pl, du, oct) (hJ.perm.subset (by rw [hen0]; exact List.getElem_mem _))).2
          have N31 : News (ghostOf s1.heap [(132, 130)]) s1.heap.objs.size h ((I, oi) :: (Kp, PySem.W.listOf kv.toArray kn) :: (S, PySem.W.listOf vs'.toArray sn) :: (R, PySem.W.listOf rv rn) :: (s1.heap.objs.size + 1 + 1, oc1) :: (s1.heap.objs.size + 1, oc2) :: (130, tab) :: (a0, tupObj #[.int pl t1, .int du t2, .bytes oct t3]) :: (Dl, PySem.W.listOf lv.toArray ln) :: (Ds, PySem.W.listOf sv.toArray en) :: tl2) := News.sub N30 (sub_cons (by k_mem) (sub_cons (by k_mem) (sub_cons (by k_mem) (sub_cons (by k_mem) (sub_cons (by k_mem) (sub_cons (by k_mem) (sub_cons (by k_mem) (sub_cons (List.Mem.tail _ (List.Mem.tail _ (List.Mem.tail _ (List.Mem.tail _ (List.Mem.tail _ (List.Mem.tail _ (List.Mem.tail _ (hsub2 _ hm0)))))))) (sub_cons (List.Mem.tail _ (List.Mem.tail _ (List.Mem.tail _ (List.Mem.tail _ (List.Mem.tail _ (List.Mem.tail _ (List.Mem.tail _ hDl))))))) (sub_cons (List.Mem.tail _ (List.Mem.tail _ (List.Mem.tail _ (List.Mem.tail _ (List.Mem.tail _ (List.Mem.tail _ (List.Mem.tail _ hDs))))))) (sub_tl (sub_tl (sub_tl (sub_tl (sub_tl (sub_tl (sub_tl sub_refl)))))))))))))))))
          clear N30
          walk_at "m_toSubT"
          rename Fr _ _ _ _ => F32
          rename News _ _ _ _ => N32
          refine item_listR (items := rv) ⟨_, N32.get (by k_mem), rfl, _, rfl⟩ (by omega) (by omega) (x := .ref a0) (by rw [show ((1 : Int) + (i : Int) - 1).toNat = i by omega]; simpa using hrv0) ?_ (by with_unfolding_all rfl)
          walk_at "m_toCall"
          rename Fr _ _ _ _ => F33
          rename News _ _ _ _ => N33
          have N34 : News (ghostOf s1.heap [(132, 130)]) s1.heap.objs.size _ [(Kp, PySem.W.listOf kv.toArray kn)] := News.sub N33 (sub_cons (by k_mem) sub_nil)
          refine insL_call Kp _ _ kv (l.map Int.ofNat) hJ2.iv (by have := kept_len hJ2.kept; have := List.length_take_le i ws; rw [List.length_map]; omega) (asc_sorted hJ2.asc) _ _ _ _ _ _ _ _ _ _ _ _ _ _ _ _ _ kn K1 F33 X1 T1 rfl ?_ ?_ N34 ?_ ?_
          · ktr_room
          · ktr_units
          · trivial
          intro items' e34 h34 tk34 hk34 ho34 ⟨p, hp, hbis, hit⟩
          have hKpN := N33 (Kp, PySem.W.listOf kv.toArray kn) (by k_mem)
          have F35 := Fr.mut F33 hKpN.2.1 hKpN.2.2 hk34
          have N35 : News (ghostOf s1.heap [(132, 130)]) s1.heap.objs.size h34 ((I, oi) :: (Kp, PySem.W.listOf items' e34) :: (S, PySem.W.listOf vs'.toArray sn) :: (R, PySem.W.listOf rv rn) :: (s1.heap.objs.size + 1 + 1, oc1) :: (s1.heap.objs.size + 1, oc2) :: (130, tab) :: tl2) := by
            refine News.swap N33 (o := PySem.W.listOf kv.toArray kn) (by k_mem) hk34 ho34 ?_
            exact sub_cons2 (.inr ⟨by k_mem, neGt iK⟩) (sub_cons2 (.inl rfl) (sub_cons2 (.inr ⟨by k_mem, neLt lK.1⟩) (sub_cons2 (.inr ⟨by k_mem, neLt lK.2.1⟩) (sub_cons2 (.inr ⟨by k_mem, neLt lK.2.2.1⟩) (sub_cons2 (.inr ⟨by k_mem, neLt lK.2.2.2.1⟩) (sub_cons2 (.inr ⟨by k_mem, neLt lK.2.2.2.2.1⟩) fun p hp => .inr ⟨(sub_tl (sub_tl (sub_tl (sub_tl (sub_tl (sub_tl (sub_tl (sub_tl (sub_tl (sub_tl sub_refl)))))))))) p hp, hoff2 p hp Kp (by k_mem)⟩))))))
          clear N34 N33 F33 hk34 ho34 hKpN
          obtain ⟨kv2, rfl⟩ : ∃ kv2 : List Value, items' = kv2.toArray := ⟨items'.toList, (Array.toArray_toList).symm⟩
          rw [List.toList_toArray] at hit
          obtain ⟨li, hli⟩ : ∃ li, li = (insAt l p oct.size).map Int.ofNat := ⟨_, rfl⟩
          have hit2 : IntsAre kv2 li := by rw [hli, ← insAt_ints]; exact hit
          have hls : li.sum = (((insAt l p oct.size).sum : Nat) : Int) := by rw [hli]; exact sum_ints _
          clear hit
          walk_at "m_toIf"
          have hwi : ws[i]? = some (du, oct.size) := by rw [hws, List.getElem?_map, List.getElem?_eq_getElem hiz, ← hen0]; rfl
          have hdi : ∀ v ∈ ws.take i, v.1 ≤ du := due_before hws hJ.lex hiz hen0
          have st1 := (hJ2.step (w := (du, oct.size)) (kv' := kv2.dropLast) hwi hdi hbis hob).1
          have st3 := (hJ2.step (w := (du, oct.size)) (kv' := kv2) hwi hdi hbis hob).2
          refine wpAny_mono (Q := IfPost (ghostOf s1.heap [(132, 130)]) s1.heap.objs.size sc R S Kp (s1.heap.objs.size + 1 + 1) (s1.heap.objs.size + 1) I oi (PySem.W.listOf vs'.toArray sn) (PySem.W.listOf rv rn) oc1 oc2 tab tl2 ws i (.int (1 + (i : Int)) t) s1) ?ifc (fun fl s' hq => ?rest) (fun _ _ e => e)
          have hk20 : kv2.length = l.length + 1 := by rw [hit2.length, hli, List.length_map, insAt_length (by rw [List.length_map] at hp; exact hp)]
          have hk21 : 0 < kv2.length := by omega
          have hk22 : kv2.length ≤ 100 := by have q1 := kept_len hJ2.kept; have q2 := List.length_take_le i ws; omega
          case ifc =>
            k_steps
            · rename Fr _ _ _ _ => F36
              rename News _ _ _ _ => N36
              unfold IfPost
              refine ⟨rfl, _, _, _, _, _, _, rfl, F36, ⟨mS2, mR2, mW2, rfl⟩, N36, st1 ?_ ?_⟩
              · rw [← hls]; assumption
              · have q : IntsAre kv2.dropLast li.dropLast := by assumption
                rw [hli, ← List.map_dropLast] at q
                exact q
            · rename Fr _ _ _ _ => F36
              rename News _ _ _ _ => N36
              unfold IfPost
              refine ⟨rfl, _, _, _, _, _, _, rfl, F36, ⟨mS2, mR2, mW2, rfl⟩, N36, st3 ?_ ?_⟩
              · rw [← hls]; assumption
              · rw [← hli]; exact hit2
          case rest =>
            obtain ⟨rfl, kv3, kn3, l3, h37, tk37, m3, rfl, F37, ⟨mS3, mR3, mW3, mC3⟩, N37, hJ3'⟩ := hq
            clear st1 st3 F35 N35 hit2 hls hli hbis hp
            clear F30
            dsimp only
            have hl3n : l3.length ≤ 5 := by have q1 := kept_len hJ3'.kept; have q2 := List.length_take_le (i + 1) ws; rw [List.length_take] at q1; have q3 : ws.length = rs.length := by rw [hws, List.length_map]
                                            omega
            have hiv3 := hJ3'.iv
            have hk3 : kv3.length = l3.length := by rw [hiv3.length, List.length_map]
            walk_at "m_toComp"
            refine lc_assign (cl := ?cl9) (fun _ j ys _ => IntsAre ys (sumsTo l3 j)) (by with_unfolding_all rfl) ?k9a (by decide) (by rfl) (by decide) (by rfl) (fun _ _ => .nil) (fun _ _ _ _ _ _ h => h) ?_ ?k9b
            case k9a => exact rfl
            case k9b => exact fun _ => rfl
            walk_at "m_toIter"
            rename_i F39 N39 h38 tk38 t8 u8 v8 hR38 F38 N38 e38
            clear F39 N39 e38
            refine ask_range (n := l3.length + 1) (by rfl) hR38 (small_one (by decide) (by decide) (by omega) (by rw [List.length_map]; omega)) (by rw [rangeSize_nat, List.length_map]; omega) (by rw [PySem.sizeLine_eq]; omega) ?ht1 ?hd1
            case ht1 =>
              rintro gg C j _ ys m₂ hh tk2 base keepL E' hC ⟨hj3, tj, rfl⟩ hJ4 hyl hx F N hE hk
              have Xb : (hd.heap_39 _).In base := X1.keeps fun b o e => hE b o (F38.keep b o e)
              have Tb : Top topProg _ _ _ _ base := T1.keeps fun b o e => hE b o (F38.keep b o e)
              have cb : base.get? (s1.heap.objs.size + 1) = some oc2 := hE _ _ (N38.get (by k_mem))
              have hlb : base.IsList Kp kv3.toArray := ⟨_, hE _ _ (N38.get (o := PySem.W.listOf kv3.toArray kn3) (by k_mem)), rfl, _, rfl⟩
              clear N38 F38 hR38
              dsimp only at hE hC
              refine wpAny_tests_nil ?_
              rw [if_pos rfl]
              dsimp only
              k_steps
              refine WEnd.intro (by assumption) (by assumption) (fun p hp => List.Mem.tail _ hp) ?_
              show IntsAre (ys ++ [_]) (sumsTo l3 (j + 1))
              have e : (List.take (0 + (j : Int)).toNat (List.map Int.ofNat l3)).sum = Int.ofNat (l3.take j).sum := by rw [Int.zero_add, Int.toNat_natCast, ← List.map_take]; exact sum_ints _
              rw [e, sumsTo_turn]
              exact ksk_snoc hJ4
            case hd1 =>
              intro gg D5 C5 ys5 m' hh tk2 hD hDC hn9 hd he hJ4
              refine post_assign F38 N38 ?pa5 hD hDC hn9 hd he (fun h40 tk40 F40 N40 l40 e40 e40' => ?_) ?pb5 ?pc5
              case pa5 => rfl
              case pb5 => rfl
              case pc5 => rfl
              have hsum5 : IntsAre ys5 ((sumsOf l3).map Int.ofNat) := by rw [← sumsTo_all]; exact hJ4
              clear F38 N38 hR38 e40 e40' he hn9 hd hJ4
              dsimp only
              walk_at "m_toCall"
              rename_i h41 F41 N41
              clear F40 N40
              dsimp only at N41
              obtain ⟨W5, hW5⟩ : ∃ x, x = h40.objs.size + 1 := ⟨_, rfl⟩
              have e5 : slicePick vs'.toArray none (some (1 + (i : Int))) none = (vs'.take (i + 1)).toArray := by rw [show (1 + (i : Int)) = ((i + 1 : Nat) : Int) by omega, pick_take]
              rw [e5] at N41
              rw [← hW5] at N41
              rw [← hW5]
              have hwt : ws.take (i + 1) = (rs.take (i + 1)).map fun e => (e.2.1, e.2.2.size) := by rw [hws, List.map_take]
              have hw6 : WorksL h41 (vs'.take (i + 1)).toArray.toList (ws.take (i + 1)) := by
                rw [List.toList_toArray, hwt]
                exact worksL_of (tl := tl) (fun p hp => (N41 p (by simp [hsub2 p hp])).1) (hall.take (i + 1)) fun e he => (hJ.place e (hJ.perm.subset (List.mem_of_mem_take he))).2
              refine least_call W5 (vs'.take (i + 1)).toArray (ws.take (i + 1)) (by rw [hwt, List.length_map, List.length_take]; omega) _ _ _ _ _ _ _ _ _ _ _ _ _ _ _ _ _ K1 F41 X1 T1 rfl ?_ ?_ ?_ ?_
              · ktr_room
              · ktr_units
              · exact ⟨⟨_, N41.get (by k_mem), rfl, _, rfl⟩, hw6⟩
              rintro v h42 tk42 he42 ⟨D6, ys6, rfl, hn6, hd6, hI6⟩
              dsimp only at hn6
              have hne6 : ∀ p ∈ ((W5, PySem.W.listOf (vs'.take (i + 1)).toArray 0) :: (D5, lst ys5) :: (I, oi) :: (Kp, PySem.W.listOf kv3.toArray kn3) :: (S, PySem.W.listOf vs'.toArray sn) :: (R, PySem.W.listOf rv rn) :: (s1.heap.objs.size + 1 + 1, oc1) :: (s1.heap.objs.size + 1, oc2) :: (130, tab) :: tl2 : List (Addr × Obj)), p.1 ≠ D6 := fun p hp e => by
                have q1 := (N41 p hp).1
                rw [e, hn6] at q1
                cases q1
              have F43 := F41.keptAll he42
              have hD6L : @Ne Nat D6 s1.heap.objs.size := fun e => by
                obtain ⟨o, _, _, q1, _⟩ := F41.ns
                have q2 : h41.get? D6 = some o := by rw [e]; exact q1
                rw [hn6] at q2
                cases q2
              have N43 : News (ghostOf s1.heap [(132, 130)]) s1.heap.objs.size h42 ((D6, PySem.W.listOf ys6.toArray ys6.length) :: (D5, PySem.W.listOf ys5.toArray ys5.length) :: (I, oi) :: (Kp, PySem.W.listOf kv3.toArray kn3) :: (S, PySem.W.listOf vs'.toArray sn) :: (R, PySem.W.listOf rv rn) :: (s1.heap.objs.size + 1 + 1, oc1) :: (s1.heap.objs.size + 1, oc2) :: (130, tab) :: tl2) := by
                refine List.forall_mem_cons.mpr ⟨⟨hd6, hD6L, fresh_lo hn6 F41.keep⟩, fun p hp => ?_⟩
                have q1 := N41 p (List.mem_cons_of_mem _ hp)
                exact ⟨he42 _ _ q1.1, q1.2⟩
              rw [Kept.least hJ3'.kept] at hI6
              clear N41 F41 he42 hn6 hd6 hw6 e5 hW5
              try dsimp only at F43
              walk_at "m_toNe"
              rename Fr _ _ _ _ => F44
              rename News _ _ _ _ => N44
              refine ke_ne_ints (xs := ys5) (ys := ys6) ⟨_, N44.get (by k_mem), rfl, _, rfl⟩ ⟨_, N44.get (by k_mem), rfl, _, rfl⟩ hsum5 hI6 (by ktr_units) ?_
              rw [decide_eq_true rfl]
              k_steps
              rename Fr _ _ _ _ => F45
              rename News _ _ _ _ => N45
              have iD5 : @LT.lt Nat _ I D5 := l40 (I, oi) (by k_mem)
              have kD5 : @LT.lt Nat _ Kp D5 := l40 (Kp, PySem.W.listOf kv3.toArray kn3) (by k_mem)
              have cD5 : @LT.lt Nat _ (s1.heap.objs.size + 1 + 1) D5 := l40 (s1.heap.objs.size + 1 + 1, oc1) (by k_mem)
              have nI6 : @Ne Nat I D6 := hne6 (I, oi) (by k_mem)
              have nK6 : @Ne Nat Kp D6 := hne6 (Kp, PySem.W.listOf kv3.toArray kn3) (by k_mem)
              have nC6 : @Ne Nat (s1.heap.objs.size + 1 + 1) D6 := hne6 (s1.heap.objs.size + 1 + 1, oc1) (by k_mem)
              have hoff4 : OwnOff ((D6, PySem.W.listOf ys6.toArray ys6.length) :: (D5, PySem.W.listOf ys5.toArray ys5.length) :: tl2) [I, Kp, s1.heap.objs.size + 1 + 1] := by
                exact sub_cons2 (sub_cons2 (P := fun b => @Ne Nat D6 b) (Ne.symm nI6) (sub_cons2 (Ne.symm nK6) (sub_cons2 (Ne.symm nC6) sub_nil2))) (sub_cons2 (sub_cons2 (P := fun b => @Ne Nat D5 b) (neGt iD5) (sub_cons2 (neGt kD5) (sub_cons2 (neGt cD5) sub_nil2))) hoff2)
              refine unr_end1 F45 N45 ((Kp, PySem.W.listOf kv3.toArray kn3) :: (S, PySem.W.listOf vs'.toArray sn) :: (R, PySem.W.listOf rv rn) :: (s1.heap.objs.size + 1 + 1, oc1) :: (s1.heap.objs.size + 1, oc2) :: (130, tab) :: (D6, PySem.W.listOf ys6.toArray ys6.length) :: (D5, PySem.W.listOf ys5.toArray ys5.length) :: tl2) (by k_mem) ?us3 ?of3 ⟨kv3, kn3, l3, (D6, PySem.W.listOf ys6.toArray ys6.length) :: (D5, PySem.W.listOf ys5.toArray ys5.length) :: tl2, ys5, ys6, D5, D6, ys5.length, ys6.length, rfl, hoff4, sub_tl (sub_tl hsub2), ⟨mS3, mR3, mW3, rfl, rfl⟩, List.Mem.tail _ (List.Mem.head _), List.Mem.head _, hsum5, hI6, hJ3'⟩
              case us3 => exact sub_cons (by k_mem) (sub_cons (by k_mem) (sub_cons (by k_mem) (sub_cons (by k_mem) (sub_cons (by k_mem) (sub_cons (by k_mem) (sub_cons (by k_mem) (sub_cons (by k_mem) (sub_tl (sub_tl (sub_tl (sub_tl (sub_tl (sub_tl (sub_tl (sub_tl (sub_tl sub_refl))))))))))))))))
              case of3 => exact sub_cons2 (neLt iK) (sub_cons2 (neLt iS) (sub_cons2 (neLt iR) (sub_cons2 (neLt ic1) (sub_cons2 (neLt ic0) (sub_cons2 (neLt iP) (fun p hp => hoff4 p hp I (by k_mem)))))))
        case done2 =>
          intro I m₁ nw h tk' hJ0
          refine J2.elim hJ0 ?_
          clear hJ0
          rintro kv kn l tl2 sv lv Ds Dl en ln rfl hoff2 hsub2 mS2 mR2 mW2 mSu mLe hDs hDl hsv hlv hJ2 F50 N50
          clear F20 N21
          have N51 : News (ghostOf s1.heap [(132, 130)]) s1.heap.objs.size h [(s1.heap.objs.size + 1 + 1, oc1), (130, tab), (Dl, PySem.W.listOf lv.toArray ln), (Ds, PySem.W.listOf sv.toArray en)] := News.sub N50 (sub_cons (by k_mem) (sub_cons (by k_mem) (sub_cons (List.Mem.tail _ (List.Mem.tail _ (List.Mem.tail _ (List.Mem.tail _ (List.Mem.tail _ (List.Mem.tail _ hDl)))))) (sub_cons (List.Mem.tail _ (List.Mem.tail _ (List.Mem.tail _ (List.Mem.tail _ (List.Mem.tail _ (List.Mem.tail _ hDs)))))) sub_nil))))
          have hl3n : l.length ≤ 5 := by have q1 := kept_len hJ2.kept; have q2 := List.length_take_le rs.length ws; omega
          have nDl : @Ne Nat Dl (s1.heap.objs.size + 1 + 1) := hoff2 _ hDl _ (by simp)
          have nDs : @Ne Nat Ds (s1.heap.objs.size + 1 + 1) := hoff2 _ hDs _ (by simp)
          clear N50
          walk_at "m_toFor"
          rename Fr _ _ _ _ => F52
          refine For_turns F52 ?_
          walk_at "m_toIter"
          rename_i Xl us h53 F53' N53' hiX lX
          have F53 : Fr (ghostOf s1.heap [(132, 130)]) s1.heap.objs.size h53 _ := F53'
          have N53 : News (ghostOf s1.heap [(132, 130)]) s1.heap.objs.size h53 [(Xl, PySem.W.listOf us.toArray 0), (s1.heap.objs.size + 1 + 1, oc1), (130, tab), (Dl, PySem.W.listOf lv.toArray ln), (Ds, PySem.W.listOf sv.toArray en)] := News.sub N53' (sub_cons (by k_mem) (sub_cons (by k_mem) (sub_cons (by k_mem) (sub_cons (by k_mem) (sub_cons (by k_mem) sub_nil)))))
          clear F53' N53'
          refine list_invI (vs := us) (n := 0) (J3 Xl (s1.heap.objs.size + 1 + 1) Ds Dl (PySem.W.listOf us.toArray 0) (PySem.W.listOf sv.toArray en) (PySem.W.listOf lv.toArray ln) tab) (by rfl) F53 N53 (List.Mem.head _) rfl rfl ?j30 ?jk3 ?turn3 ?done3
          case j30 => exact fun I hI => ⟨oc1, x1, rfl, dc1, mSu, mLe⟩
          case jk3 => rintro I i m nw ⟨_, _, rfl, _⟩; exact List.Mem.head _
          case done3 =>
            intro I m₁ nw h tk' hJ0
            refine J3.elim hJ0 ?_
            clear hJ0
            rintro oc1 x1 rfl dc1 mSu mLe F54 N54
            obtain ⟨tps, rfl⟩ := htab.isTab
            have F55 : Fr (ghostOf s1.heap [(132, 130)]) s1.heap.objs.size h m₁ := F54
            have N55 : News (ghostOf s1.heap [(132, 130)]) s1.heap.objs.size h [(Xl, PySem.W.listOf us.toArray 0), (s1.heap.objs.size + 1 + 1, oc1), (130, tabObj tps), (Dl, PySem.W.listOf lv.toArray ln), (Ds, PySem.W.listOf sv.toArray en)] := N54
            clear F54 N54
            walk_at "m_step1"
            walk_at "m_step1"
            walk_at "m_step1"
            dsimp only
            refine ⟨?_, GrownAt.of N55 (by k_mem), trivial⟩
            refine goodW_bool F55 hg (raisesW_false ?_) ?_
            · wrow_none_raised
            · wrow_post
          case turn3 =>
            intro I i x m₁ nw h tk' oi hlt hx hJ0
            refine J3.elim hJ0 ?_
            clear hJ0
            rintro oc1 x1 rfl dc1 mSu mLe hoi hI F54 N54
            obtain ⟨k, tk3, hk3, rfl⟩ := ints_at hiX hx
            have iX : @LT.lt Nat _ Xl I := hI (Xl, _) (by k_mem)
            have iC : @LT.lt Nat _ (s1.heap.objs.size + 1 + 1) I := hI (s1.heap.objs.size + 1 + 1, _) (by k_mem)
            have iP : @LT.lt Nat _ 130 I := hI (130, _) (by k_mem)
            have iDl : @LT.lt Nat _ Dl I := hI (Dl, _) (by k_mem)
            have iDs : @LT.lt Nat _ Ds I := hI (Ds, _) (by k_mem)
            clear hI F53 N53 hx hlt
            walk_at "m_toCall"
            rename_i h55 oc3 F55 N55 d55
            refine bisR_call Ds k tk3 sv ((sumsOf l).map Int.ofNat) hsv (by rw [sums_len]; omega) (sums_sorted l) _ _ _ _ _ _ _ _ _ _ _ _ _ _ _ _ _ K1 F55 X1 T1 rfl ?_ ?_ ?_ ?_
            · ktr_room
            · ktr_units
            · exact ⟨_, N55.get (by k_mem), rfl, _, rfl⟩
            rintro v h56 tk56 he56 ⟨p, tp, rfl, hb⟩
            have F57 := F55.keptAll he56
            have N57 : News (ghostOf s1.heap [(132, 130)]) s1.heap.objs.size h56 [(I, oi), (Xl, PySem.W.listOf us.toArray 0), (s1.heap.objs.size + 1 + 1, oc3), (130, tab), (Dl, PySem.W.listOf lv.toArray ln), (Ds, PySem.W.listOf sv.toArray en)] := fun q hq => N55.grown he56 q hq
            have hcnt := bis_count hb
            clear F55 N55 he56 hb
            try dsimp only at F57
            have hlvn : lv.length = l.length + 1 := by rw [hlv.length, sums_len]
            walk_at "m_toComp"
            refine lc_expr (cl := ?cl10) (fun _ j ys _ => ys.length = (upTo ((sumsOf l).map Int.ofNat) k j).length) ?ka0 (by decide) (by rfl) (by decide) (by rfl) (fun _ _ => by simp [upTo]) (fun _ _ _ _ _ _ h => h) ?_ ?kb0
            case ka0 => exact rfl
            case kb0 => exact fun _ => rfl
            walk_at "m_toIter"
            rename Fr _ _ _ _ => F58
            rename News _ _ _ _ => N58
            refine ask_list (its := lv.toArray) (by rfl) ⟨_, N58.get (by k_mem), rfl, _, rfl⟩ (by rw [PySem.sizeLine_eq, List.size_toArray]; omega) ?lt1 ?ld1
            case lt1 =>
              intro gg C j v ys m₂ hh tk2 base keepL E' hC hv hJ4 hyl hx F N hE hk
              obtain ⟨x, tx, hxj, rfl⟩ := ints_at hlv (show lv[j]? = some v by simpa using hv)
              have Xb : (hd.heap_39 _).In base := X1.keeps fun b o e => hE b o (F58.keep b o e)
              have Tb : Top topProg _ _ _ _ base := T1.keeps fun b o e => hE b o (F58.keep b o e)
              have cb : base.get? (s1.heap.objs.size + 1 + 1) = some oc3 := hE _ _ (N58.get (by k_mem))
              clear N58 F58
              dsimp only at hE hC
              refine wpAny_tests_one ?_
              k_steps
              · refine WEnd.intro (by assumption) (by assumption) (fun p hp => hp) ?_
                show (ys ++ [_]).length = (upTo ((sumsOf l).map Int.ofNat) k (j + 1)).length
                rw [upTo_pos hxj (by assumption), List.length_append, hJ4]
                rfl
              · refine WEnd.intro (by assumption) (by assumption) (fun p hp => hp) ?_
                show ys.length = (upTo ((sumsOf l).map Int.ofNat) k (j + 1)).length
                rw [upTo_neg hxj (by assumption)]
                exact hJ4
            case ld1 =>
              intro gg D5 C5 ys5 m' hh tk2 hD hDC hn9 hd he hJ4
              refine post_expr F58 N58 hD hDC hn9 hd he (fun h59 F59 N59 l59 e59 e59' => ?_)
              have hy5 : (ys5.toArray.size : Int) = p := by
                rw [List.size_toArray, hJ4, upTo_all (by rw [sums_len, List.size_toArray]; omega)]
                exact hcnt
              have hys : ys5.length ≤ 6 := by
                rw [hJ4]
                unfold upTo
                refine Nat.le_trans (List.length_filter_le _ _) ?_
                rw [List.length_take, sums_len]
                omega
              clear F58 N58 e59 e59' he hd hn9 hD hDC hJ4
              subst hy5
              have h63 : (ys5.toArray.size : Int) < 2 ^ 63 := small63 (by rw [List.size_toArray]; omega)
              dsimp only
              walk_at "m_toIte"
              refine ite_neg (by simp) ?_
              k_steps
              rename Fr _ _ _ _ => F60
              rename News _ _ _ _ => N60
              refine unr_end1 F60 N60 [(Xl, PySem.W.listOf us.toArray 0), (s1.heap.objs.size + 1 + 1, oc3), (130, tab), (Dl, PySem.W.listOf lv.toArray ln), (Ds, PySem.W.listOf sv.toArray en)] (by k_mem) (sub_cons (by k_mem) (sub_cons (by k_mem) (sub_cons (by k_mem) (sub_cons (by k_mem) (sub_cons (by k_mem) sub_nil))))) (sub_cons2 (neLt iX) (sub_cons2 (neLt iC) (sub_cons2 (neLt iP) (sub_cons2 (neLt iDl) (sub_cons2 (neLt iDs) sub_nil2))))) ⟨oc3, _, rfl, d55, mSu, mLe⟩
            )

end Mine
end
end

theorem PySem.Challenge.cw_xe0016_01_holds : PySem.Challenge.rw_xe0016_01.Holds :=
  Mine.lw
