import PyProof.Rows.All
import Wide.All
import OpenK.AllK
import Wide.FinOn
import PySem.Challenge.RW_ez5001_01
set_option Elab.async false
set_option maxRecDepth 100000
set_option maxHeartbeats 8000000
section
open PySem PySem.W PyProof.Rows
namespace Mine
open_top hd for PySem.Challenge.rw_ez5001_01
end Mine
end

section
open PySem PySem.W PySem.Calls PyProof.Rows
set_option Elab.async false
set_option maxRecDepth 100000
namespace Mine

abbrev NoE : Value → Shared → Prop := fun _ _ => False
/-- all but the listed stays -/
def KB (ex : List Addr) (h h' : Heap) : Prop := ∀ b o, b ∉ ex → h.get? b = some o → h'.get? b = some o
theorem KB.refl (ex : List Addr) (h : Heap) : KB ex h h := fun _ _ _ e => e
theorem KB.trans {ex : List Addr} {h h' h'' : Heap} (a : KB ex h h') (b : KB ex h' h'') : KB ex h h'' := fun x o n e => b x o n (a x o n e)
theorem KB.mono {ex ex' : List Addr} {h h' : Heap} (a : KB ex h h') (hs : ∀ b ∈ ex, b ∈ ex') : KB ex' h h' := fun x o n e => a x o (fun q => n (hs x q)) e
theorem KB.all {ex : List Addr} {h h' : Heap} (a : ∀ b o, h.get? b = some o → h'.get? b = some o) : KB ex h h' := fun x o _ e => a x o e
theorem KB.of_same {L : Addr} {ex : List Addr} {h h' : Heap} (a : Heap.SameBut L h h') (hL : L ∈ ex) : KB ex h h' := fun x o n e => (a.2 x fun q => n (q ▸ hL)).trans e

/-- what a turn must leave -/
def TurnEnd (h₀ : Heap) (L : Addr) (fp : List Addr) (Jn : (Str → Option Value) → Heap → Prop) (s : Shared) (h₁ : Heap) (Q : Flow → Shared → Prop) (f : Flow) (s₂ : Shared) : Prop :=
  match f with
  | .ret v => Q (.ret v) s₂
  | .brk => Q .next s₂
  | _ => ∃ h₂ tk₂ m₂, s₂ = { s with heap := h₂, toks := tk₂ } ∧ Fr h₀ L h₂ m₂ ∧ (∀ b ∈ fp, ∀ o, h₁.get? b = some o → h₂.get? b = some o) ∧ Jn m₂ h₂

section
variable {prog : Program} {w : World} {A : Around} {s : Shared} {env : Env} {h₀ : Heap}

theorem forLoopM {Q : Flow → Shared → Prop} {x : Str} {px : Pos} {body : List Stmt} {I : Addr} {fp wr : List Addr} {n : Nat} {P : Nat → Value → Prop} {St : Nat → Heap → Prop} {m : Str → Option Value}
    (W : Walks prog w A I fp wr n P St) (hx : env.kindOf x = some .local)
    (hp : (env.scope.kind == .class || (env.scope.kind == .module && env.locals != env.globals)) = false)
    (hLf : env.locals ∉ fp) (hwr : ∀ b ∈ wr, h₀.get? b = none)
    (hst : St 0 s.heap) (F : Fr h₀ env.locals s.heap m)
    (J : Nat → (Str → Option Value) → Heap → Prop) (h0 : J 0 m s.heap)
    (adv : ∀ i m h h', J i m h → KB (env.locals :: wr) h h' → J i m h')
    (step : ∀ i v m₁ h₁ tk, i < n → P i v → J i m₁ h₁ → Fr h₀ env.locals h₁ (fun y => if y = x then some v else m₁ y) → St (i + 1) h₁ → s.toks ≤ tk →
      wpAny (model prog w) A (execs body env) (TurnEnd h₀ env.locals fp (J (i + 1)) s h₁ Q) NoE { s with heap := h₁, toks := tk })
    (done : ∀ h' tk m', Fr h₀ env.locals h' m' → J n m' h' → s.toks ≤ tk → Q .next { s with heap := h', toks := tk }) :
    codeAny (model prog w) A (.forLoop (.Name x px) (.ref I) body [] env) (fun r s' => match r with | .ok f => Q f s' | .error e => cameBackBy (model prog w) A env NoE e s') s := by
  have hLw : env.locals ∉ wr := fun h => hLf (W.sub _ h)
  have old : ∀ b o, h₀.get? b = some o → b ∉ wr := fun b o e hb => by rw [hwr b hb] at e; cases e
  refine codeAny_forLoop
    (fun k s' => ∃ h' tk m' i, s' = { s with heap := h', toks := tk } ∧ St i h' ∧ Fr h₀ env.locals h' m' ∧ J i m' h' ∧ i ≤ n ∧ k = n + 1 - i ∧ s.toks ≤ tk) ?_ (n + 1)
    ⟨s.heap, s.toks, m, 0, rfl, hst, F, h0, Nat.zero_le _, rfl, Nat.le_refl _⟩
  rintro k s' ⟨h', tk, m', i, rfl, hst', F', hJ, hi, rfl, htk⟩
  have next : ∀ h₁ : Heap, (∀ b o, b ∉ wr → h'.get? b = some o → h₁.get? b = some o) → Fr h₀ env.locals h₁ m' := fun h₁ hk₁ =>
    ⟨F'.ns.at' fun o e => hk₁ _ o hLw e, fun b o e => hk₁ b o (old b o e) (F'.keep b o e), F'.above⟩
  by_cases hlt : i < n
  · refine wpAny_with_toks (n := s.toks) htk (W.item i _ _ _ hlt hst' fun v h₁ tk₁ hP hst₁ hk₁ htk₁ => ?_)
    have F₁ := next h₁ hk₁
    refine wpAny_assign_Name (wpAny_storeName_local hx F₁.ns (fun h₂ hn₂ hs₂ => ?_) hp)
    have F₂ := F₁.set hn₂ hs₂
    have hst₂ : St (i + 1) h₂ := W.frame _ _ _ hst₁ fun b hb o e => (hs₂.2 b fun q => hLf (q ▸ hb)).trans e
    have hJ₂ : J i m' h₂ := adv _ _ _ _ hJ fun b o hb e => (hs₂.2 b fun q => hb (by rw [q]; exact .head _)).trans (hk₁ b o (fun q => hb (.tail _ q)) e)
    refine wpAny_passesOwn PassesOwn.never (wpAny_mono (wpAny_toks_of (n := s.toks) (Nat.le_succ_of_le htk₁) (step i v m' h₂ _ hlt hP hJ₂ F₂ hst₂ (Nat.le_succ_of_le htk₁))) (fun f s₃ h₃ => ?_) fun _ _ e => e.2)
    obtain ⟨htk₃, h₃⟩ := h₃
    have fin : TurnEnd h₀ env.locals fp (J (i + 1)) s h₂ Q .next s₃ → ∃ k', k' < n + 1 - i ∧ ∃ h' tk m' i', s₃ = { s with heap := h', toks := tk } ∧ St i' h' ∧ Fr h₀ env.locals h' m' ∧ J i' m' h' ∧ i' ≤ n ∧ k' = n + 1 - i' ∧ s.toks ≤ tk := by
      rintro ⟨h₃', tk₃, m₂, e, F₃, hk₃, hJ₃⟩
      subst e
      exact ⟨n + 1 - (i + 1), by omega, h₃', tk₃, m₂, i + 1, rfl, W.frame _ _ _ hst₂ hk₃, F₃, hJ₃, hlt, rfl, htk₃⟩
    cases f with
    | ret v => exact h₃
    | brk => exact h₃
    | cont => exact fin h₃
    | next => exact fin h₃
  · have hin : i = n := by omega
    subst hin
    refine wpAny_with_toks (n := s.toks) htk (W.done _ _ _ hst' fun h₁ tk₁ hk₁ htk₁ => wpAny_execs_nil ?_)
    exact done h₁ tk₁ m' (next h₁ hk₁) (adv _ _ _ _ hJ fun b o hb e => hk₁ b o (fun q => hb (.tail _ q)) e) htk₁

/-- a for over a list, or a tuple, whose items are known -/
theorem forSeqM {Q : Flow → Shared → Prop} {x : Str} {px pos : Pos} {iter : PySem.Expr} {body : List Stmt} {ax : Addr} {vs : List Value} {m : Str → Option Value}
    (hh : A.handled = none) (hx : env.kindOf x = some .local)
    (hp : (env.scope.kind == .class || (env.scope.kind == .module && env.locals != env.globals)) = false)
    (F : Fr h₀ env.locals s.heap m) (hl : s.heap.IsList ax vs.toArray ∨ s.heap.IsTuple ax vs.toArray) (hax : ax ≠ env.locals)
    (hev : ∀ Q' : Value → Shared → Prop, Q' (.ref ax) s → wpAny (model prog w) A (eval iter env) Q' NoE s)
    (J : Nat → (Str → Option Value) → Heap → Prop) (h0 : ∀ h', (∀ b o, s.heap.get? b = some o → h'.get? b = some o) → J 0 m h')
    (adv : ∀ i m h h', J i m h → KB [env.locals, s.heap.objs.size] h h' → J i m h')
    (step : ∀ i v m₁ h₁ tk, vs[i]? = some v → J i m₁ h₁ → Fr h₀ env.locals h₁ (fun y => if y = x then some v else m₁ y) → (∃ o, h₁.get? s.heap.objs.size = some o ∧ o.cls ≠ .type "tuple" ∧ o.cls ≠ .type "list") → s.toks ≤ tk →
      wpAny (model prog w) A (execs body env) (TurnEnd h₀ env.locals [s.heap.objs.size, ax] (J (i + 1)) s h₁ Q) NoE { s with heap := h₁, toks := tk })
    (done : ∀ h' tk m', Fr h₀ env.locals h' m' → J vs.length m' h' → s.toks ≤ tk → Q .next { s with heap := h', toks := tk })
    (hs : ∀ x, foldedSetIterable iter env x = pure x := by intro _; rfl) :
    wpAny (model prog w) A (exec (.For (.Name x px) iter body [] pos) env) Q NoE s := by
  refine wpAny_For (hev _ ?_) hs
  have hLlt : env.locals < s.heap.objs.size := F.ns.lt
  have hI0 : h₀.get? s.heap.objs.size = none := Heap.get?_none_of_le (Nat.le_trans F.above (Nat.le_of_lt hLlt))
  have haxlt : ax < s.heap.objs.size := by
    rcases hl with ⟨o, ho, _⟩ | ⟨o, ho, _⟩ <;> exact Heap.lt_size ho
  have hLf : env.locals ∉ [s.heap.objs.size, ax] := by
    simp only [List.mem_cons, List.not_mem_nil, or_false, not_or]
    exact ⟨Nat.ne_of_lt hLlt, fun e => hax e.symm⟩
  rcases hl with hl | hl
  · refine wpAny_pyIter_list hl ?_
    have W := Walks.list (prog := prog) (w := w) hh s.heap.objs.size ax (Nat.ne_of_lt haxlt) vs.toArray
    refine forLoopM (s := { s with heap := _ }) (m := m) (P := fun i v => vs.toArray[i]? = some v) W hx hp hLf (fun b hb => by rw [List.mem_singleton.mp hb]; exact hI0)
      ⟨⟨_, Heap.get?_push_size _ rfl, rfl, rfl⟩, hl.at fun o e => Heap.get?_push_of_some _ e⟩ (F.push _) J (h0 _ fun b o e => Heap.get?_push_of_some _ e) adv
      (fun i v m₁ h₁ tk _ hP hJ F₁ st ht => step i v m₁ h₁ tk (by simpa using hP) hJ F₁ (by obtain ⟨⟨o, ho, hc, _⟩, _⟩ := st; exact ⟨o, ho, by rw [hc]; simp, by rw [hc]; simp⟩) ht) (fun h' tk m' F' hJ ht => ?_)
    have e : vs.toArray.size = vs.length := by simp
    rw [e] at hJ
    exact done h' tk m' F' hJ ht
  · refine wpAny_pyIter_tuple hl ?_
    have W := Walks.tuple (prog := prog) (w := w) hh s.heap.objs.size ax (Nat.ne_of_lt haxlt) vs.toArray
    refine forLoopM (s := { s with heap := _ }) (m := m) (P := fun i v => vs.toArray[i]? = some v) W hx hp hLf (fun b hb => by rw [List.mem_singleton.mp hb]; exact hI0)
      ⟨⟨_, Heap.get?_push_size _ rfl, rfl, rfl⟩, hl.at fun o e => Heap.get?_push_of_some _ e⟩ (F.push _) J (h0 _ fun b o e => Heap.get?_push_of_some _ e) adv
      (fun i v m₁ h₁ tk _ hP hJ F₁ st ht => step i v m₁ h₁ tk (by simpa using hP) hJ F₁ (by obtain ⟨⟨o, ho, hc, _⟩, _⟩ := st; exact ⟨o, ho, by rw [hc]; simp, by rw [hc]; simp⟩) ht) (fun h' tk m' F' hJ ht => ?_)
    have e : vs.toArray.size = vs.length := by simp
    rw [e] at hJ
    exact done h' tk m' F' hJ ht

/-- a for over a range that the iterable's evaluation has made -/
theorem forRangeM {Q : Flow → Shared → Prop} {x : Str} {px pos : Pos} {iter : PySem.Expr} {body : List Stmt} {a b c : Int} {n : Nat}
    (hh : A.handled = none) (hx : env.kindOf x = some .local)
    (hp : (env.scope.kind == .class || (env.scope.kind == .module && env.locals != env.globals)) = false)
    (hsmall : Builtin.Range.small a b c = true) (hn : Builtin.Range.rangeSize a b c = (n : Int))
    (hev : wpAny (model prog w) A (eval iter env) (fun xv s₁ => ∃ (r : Addr) (t u v : Tok) (m : Str → Option Value) (J : Nat → (Str → Option Value) → Heap → Prop), xv = .ref r ∧ IsRange s₁.heap r a b c t u v ∧ Fr h₀ env.locals s₁.heap m ∧
      (∀ h', (∀ b o, s₁.heap.get? b = some o → h'.get? b = some o) → J 0 m h') ∧
      (∀ i m h h', J i m h → KB [env.locals, s₁.heap.objs.size] h h' → J i m h') ∧
      (∀ i t m₁ h₁ tk, i < n → J i m₁ h₁ → Fr h₀ env.locals h₁ (fun y => if y = x then some (.int (a + i * c) t) else m₁ y) → (∃ o, h₁.get? s₁.heap.objs.size = some o ∧ o.cls ≠ .type "tuple" ∧ o.cls ≠ .type "list") → s₁.toks ≤ tk →
        wpAny (model prog w) A (execs body env) (TurnEnd h₀ env.locals [s₁.heap.objs.size] (J (i + 1)) s₁ h₁ Q) NoE { s₁ with heap := h₁, toks := tk }) ∧
      (∀ h' tk m', Fr h₀ env.locals h' m' → J n m' h' → s₁.toks ≤ tk → Q .next { s₁ with heap := h', toks := tk })) NoE s)
    (hs : ∀ x, foldedSetIterable iter env x = pure x := by intro _; rfl) :
    wpAny (model prog w) A (exec (.For (.Name x px) iter body [] pos) env) Q NoE s := by
  refine wpAny_For (wpAny_mono hev (fun xv s₁ h₁ => ?_) fun _ _ e => e) hs
  obtain ⟨r, t, u, v, m, J, rfl, hr, F, h0, adv, step, done⟩ := h₁
  have hLlt : env.locals < s₁.heap.objs.size := F.ns.lt
  have hI0 : h₀.get? s₁.heap.objs.size = none := Heap.get?_none_of_le (Nat.le_trans F.above (Nat.le_of_lt hLlt))
  have hLf : env.locals ∉ [s₁.heap.objs.size] := by
    simp only [List.mem_cons, List.not_mem_nil, or_false]
    exact Nat.ne_of_lt hLlt
  refine wpAny_pyIter_range hr hsmall ?_
  have W := Walks.range (prog := prog) (w := w) hh s₁.heap.objs.size a c n
  refine forLoopM (s := { s₁ with heap := _ }) (m := m) W hx hp hLf (fun b hb => by rw [List.mem_singleton.mp hb]; exact hI0)
    ?_ (F.push _) J (h0 _ fun b o e => Heap.get?_push_of_some _ e) adv
    (fun i v m₁ h₁ tk hi hP hJ F₁ st ht => by obtain ⟨t, rfl⟩ := hP; exact step i t m₁ h₁ tk hi hJ F₁ ⟨_, st, by simp, by simp⟩ ht) done
  have e := Heap.get?_push_size s₁.heap (o := { cls := .type "range_iterator", data := .fields #[rawInt a, rawInt (Builtin.Range.rangeSize a b c), rawInt c] }) rfl
  have e1 : a + ((0 : Nat) : Int) * c = a := by simp
  have e2 : (n : Int) - ((0 : Nat) : Int) = (n : Int) := by simp
  show IsRangeIter _ _ (a + ((0 : Nat) : Int) * c) ((n : Int) - ((0 : Nat) : Int)) c
  rw [e1, e2, ← hn]
  exact e
end
end Mine

end

section
open PySem PySem.W PySem.Calls PyProof.Rows Builtin Builtin.Str
set_option Elab.async false
set_option maxRecDepth 100000
set_option maxHeartbeats 8000000
namespace Mine

theorem fillK : PySem.Challenge.rw_ez5001_01.Holds → hd.heap_39 = hd.heap_39 := by
  k_fill
  intro _; rfl

/-- what a call of ours gives: a value, nothing that stood is turned -/
def RetK (s : Shared) (P : Value → Heap → Prop) (r : Result) (s' : Shared) : Prop :=
  ∃ v h' tk, r = .ok (.ret v) ∧ s' = { s with heap := h', toks := tk } ∧ (∀ b o, s.heap.get? b = some o → h'.get? b = some o) ∧ P v h'

theorem RetK.intro {s : Shared} {P : Value → Heap → Prop} {v : Value} {h' : Heap} {tk : Nat} {m : Str → Option Value} {L : Addr} (F : Fr s.heap L h' m) (hp : P v h') :
    RetK s P (.ok (.ret v)) { s with heap := h', toks := tk } := ⟨v, h', tk, rfl, rfl, F.keep, hp⟩

theorem enterM {prog : Program} {w : World} {A : Around} {s : Shared} {K : Frag} {p : Program} {loose : List Str} {mg mb : Str → Option Value}
    {R : Result → Shared → Prop} {name qual : Str} {params : Arguments} {body : List Stmt} {scope : Scope} {dV kV doc pm cdv ct oc : Value} {an od : Option Addr} {osl : Array (Option Value)} {f : Addr} {args : Args} (binds : List (Str × Value))
    (X : K.In s.heap) (T : TopRead p loose mg mb s.heap)
    (ho : K.lookup f = some ⟨oc, od, .func (fnOf name qual params body scope dV kV doc pm an cdv ct), osl⟩) (hcd : codeIn K cdv qual = true) (hroom : A.depth < recursionLimit)
    (hbind : BindsTo s (fnOf name qual params body scope dV kV doc pm an cdv ct) args binds) (hloc : ∀ y ∈ binds, scope.names.lookup y.1 = some .local)
    (h : ∀ L h₁ tk, s.heap.objs.size ≤ L → s.toks ≤ tk → Fr s.heap L h₁ (fun y => binds.reverse.lookup y) →
      wpAny (model prog w) (A.deeper (envOf qual scope L f cdv)) (execs body (envOf qual scope L f cdv))
        (fun fl s' => R (.ok (.ret (match fl with | .ret v => v | _ => .none))) s') NoE
        { s with heap := h₁, toks := tk })
    (hco : scope.isCoroutine = false) (hgen : scope.isGenerator = false) (hk : scope.kind = .function)
    (hcell : ∀ x ∈ scope.names, x.2 ≠ .cell) : codeAny (model prog w) A (.call (.ref f) args) R s := by
  refine codeAny_call_def (fd := fnOf name qual params body scope dV kV doc pm an cdv ct) (body := body) (binds := binds) hroom (X _ _ ho) rfl T.nolimit (codeRec_of X hcd) rfl hbind hcell hloc (fun h₁ hns hk₁ => ?_) hco hgen hk
  exact wpAny_mono (h _ h₁ _ (Nat.le_refl _) (Nat.le_add_right _ _) ⟨hns, hk₁, Nat.le_refl _⟩) (fun _ _ x => x) (fun _ _ x => x.elim)

theorem frKnown {h₀ h : Heap} {L : Addr} {m : Str → Option Value} {x : Str} {v : Option Value} (F : Fr h₀ L h m) (hx : m x = v) : Fr h₀ L h (fun z => if z = x then v else m z) := by
  have e : (fun z => if z = x then v else m z) = m := by
    funext z
    by_cases h : z = x
    · subst h; simp [hx]
    · simp [h]
  rw [e]; exact F

def OptV : Option Str → Value → Prop
  | none, v => v = .none
  | some x, v => ∃ t, v = .str x t
def OptsAre (vs : List Value) (os : List (Option Str)) : Prop := Paired (fun v o => OptV o v) vs os
def lowOf : Option Str → Option Str
  | none => none
  | some x => if x.length = 0 then none else some (Txt.lower x)
def smallF (os : List (Option Str)) : List Str := os.filterMap lowOf

def lookupS (kvs : List (Str × Str)) (x : Str) : Option Str := (kvs.find? fun p => p.1 == x).map (·.2)
def dataOf (kvs : List (Str × Str)) : List (PyData × PyData) := kvs.map fun p => (PyData.str p.1, PyData.str p.2)

/-- the table: none, or a dict of texts -/
def TableV (prog : Program) (w : World) (h : Heap) (tv : Value) (kvs : List (Str × Str)) : Prop :=
  (tv = .none ∧ kvs = []) ∨ ∃ d, tv = .ref d ∧ StrTab prog w h d (dataOf kvs)

theorem optsAre_low {vs ys : List Value} {os : List (Option Str)} (h : OptsAre vs os) {p : Value → Bool} {F : Value → Value → Prop}
    (hp : ∀ v o, OptV o v → p v = (lowOf o).isSome) (hF : ∀ v o y x, OptV o v → lowOf o = some x → F v y → ∃ t, y = .str x t)
    (hy : Paired F (vs.filter p) ys) : StrsAre ys (smallF os) := by
  induction h generalizing ys with
  | nil => cases hy; exact .nil
  | @cons v o vs os ho _ ih =>
    have e := hp v o ho
    unfold smallF
    cases hl : lowOf o with
    | none =>
      rw [hl] at e
      rw [List.filter_cons_of_neg (by rw [e]; decide)] at hy
      rw [List.filterMap_cons_none hl]
      exact ih hy
    | some x =>
      rw [hl] at e
      rw [List.filter_cons_of_pos (by rw [e]; rfl)] at hy
      cases hy with
      | cons h1 h2 =>
        obtain ⟨t, rfl⟩ := hF v o _ x ho hl h1
        rw [List.filterMap_cons_some hl]
        exact .cons x t (ih h2)
def truthyV : Value → Bool
  | .str x _ => decide (x.length ≠ 0)
  | _ => false
def LowV (v y : Value) : Prop := ∃ x t t', v = .str x t ∧ y = .str (Txt.lower x) t'
theorem strsAre_low {vs ys : List Value} {os : List (Option Str)} (h : OptsAre vs os) (hy : Paired LowV (vs.filter truthyV) ys) : StrsAre ys (smallF os) := by
  refine optsAre_low h (fun v o ho => ?_) (fun v o y x ho hl hF => ?_) hy
  · cases o with
    | none => cases ho; rfl
    | some x =>
      obtain ⟨t, rfl⟩ := ho
      unfold lowOf truthyV
      by_cases hx : x.length = 0 <;> simp [hx]
  · obtain ⟨z, t, t', rfl, rfl⟩ := hF
    cases o with
    | none => cases ho
    | some w' =>
      obtain ⟨t2, e⟩ := ho
      injection e with e1 e2
      subst e1
      unfold lowOf at hl
      by_cases hx : z.length = 0
      · simp [hx] at hl
      · simp only [hx, if_false] at hl
        exact ⟨t', by rw [Option.some.inj hl]⟩

theorem OptsAre.mem {vs : List Value} {os : List (Option Str)} (h : OptsAre vs os) : ∀ v ∈ vs, ∃ o ∈ os, OptV o v := by
  induction h with
  | nil => intro v hv; cases hv
  | cons ho _ ih =>
    intro v hv
    rcases List.mem_cons.mp hv with rfl | hv
    · exact ⟨_, .head _, ho⟩
    · obtain ⟨o, a, b⟩ := ih v hv; exact ⟨o, .tail _ a, b⟩
theorem small_len {vs : List Value} {os : List (Option Str)} {n : Nat} (h : OptsAre vs os) (hn : vs.length ≤ n) : (smallF os).length ≤ n := by
  have e : vs.length = os.length := by
    clear hn
    induction h with
    | nil => rfl
    | cons _ _ ih => simp [ih]
  have := List.length_filterMap_le lowOf os
  unfold smallF
  omega
theorem StrsAre.len {vs : List Value} {xs : List Str} (h : StrsAre vs xs) : vs.length = xs.length := by
  induction h with
  | nil => rfl
  | cons _ _ _ ih => simp [ih]
theorem StrsAre.at {vs : List Value} {xs : List Str} (h : StrsAre vs xs) : ∀ (i : Nat) (v : Value), vs[i]? = some v → ∃ x, xs[i]? = some x ∧ ∃ t, v = .str x t := by
  induction h with
  | nil => intro i v hv; simp at hv
  | cons y t _ ih =>
    intro i v hv
    cases i with
    | zero => simp at hv; exact ⟨y, by simp, t, hv.symm⟩
    | succ i => simp at hv ⊢; exact ih i v hv

/-- bounded texts -/
def Bd (n : Nat) : Option Str → Prop
  | none => True
  | some x => x.length ≤ n


section
variable {prog : Program} {w : World} {A : Around} {s : Shared} {env : Env} {h₀ : Heap}

/-- [x.lower() for x in z if x], bound to y -/
theorem comp_small {x y z : Str} {p1 p2 p3 px pz pi py pos spos : Pos} {scope : Scope} {m : Str → Option Value} {la : Addr} {avs : List Value} {os : List (Option Str)} {Q : Flow → Shared → Prop}
    (hh : A.handled = none) (hfun : env.scope.kind = .function) (hy : env.kindOf y = some .local) (hz : env.kindOf z = some .local) (hzd : (z == ("__debug__" : Str)) = false) (hxd : (x == ("__debug__" : Str)) = false)
    (hsc : scope.kind = .function) (hfree : ∀ q ∈ scope.names, q.2 ≠ .free) (hcell : ∀ q ∈ scope.names, q.2 ≠ .cell) (hnames : ∀ q ∈ scope.names, q.2 = .local → scope.names.lookup q.1 = some .local) (hx : scope.names.lookup x = some .local)
    (hsw : swapsWith (.ListComp (.Call (.Attribute (.Name x p1) (Str.ofString "lower") p2) [] [] p3) [⟨.Name x px, .Name z pz, [.Name x pi], 0⟩] scope pos) (some (.Name y py)) spos.line env = pure true)
    (hbase : ∀ C, attributeBase (.Name x p1) (Str.ofString "lower") (compEnv scope C env) (eval (.Name x p1) (compEnv scope C env)) = eval (.Name x p1) (compEnv scope C env))
    (hline : (p2.endLine == p3.line) = true)
    (F : Fr h₀ env.locals s.heap m) (hm : m z = some (.ref la)) (hal : s.heap.IsList la avs.toArray) (has : OptsAre avs os) (hlen : avs.length ≤ 1000) (hbo : ∀ o ∈ os, Bd 1000 o)
    (h : ∀ D h' tk ys, Fr h₀ env.locals h' (fun q => if q = y then some (.ref D) else m q) → D ≠ env.locals → s.heap.get? D = none → h'.IsList D ys.toArray → StrsAre ys (smallF os) →
      KB [env.locals] s.heap h' → s.toks ≤ tk → Q .next { s with heap := h', toks := tk }) :
    wpAny (model prog w) A (exec (.Assign [.Name y py] (.ListComp (.Call (.Attribute (.Name x p1) (Str.ofString "lower") p2) [] [] p3) [⟨.Name x px, .Name z pz, [.Name x pi], 0⟩] scope pos) spos) env) Q NoE s := by
  refine wpAny_with_toks (n := s.toks) (Nat.le_refl _) (wpAny_Assign_ListComp_map truthyV LowV hsw hh hfree hcell hsc hnames hx hy (by rw [hfun]; rfl) ?_)
  refine wpAny_Name (wpAny_loadName_local hfun hz F.ns hm ?_) hzd
  have hkx : ∀ C, (compEnv scope C env).kindOf x = some .local := fun C => hx
  refine ⟨la, avs.toArray, m, rfl, hal, by rw [List.size_toArray, sizeLine_eq]; omega, F.ns, ?_, ?_, ?_⟩
  · intro C v s₂ m₂ E' hv hn hm hk
    obtain ⟨o, ho, hov⟩ := has.mem v (by simpa using hv)
    have hb := hbo o ho
    rw [List.forIn_cons]
    simp only [if_true]
    refine wpAny_bind (wpAny_bind (isTrue_plain (wpAny_Name (wpAny_loadName_local hsc (hkx C) hn hm ?_) hxd)))
    cases o with
    | none =>
      cases hov
      exact truthy_none (wpAny_pure (by dsimp only; rw [List.forIn_nil]; exact wpAny_pure ⟨rfl, s₂.heap, s₂.toks, rfl, fun _ _ e => e⟩))
    | some q =>
      obtain ⟨t, rfl⟩ := hov
      refine SBL.truthy (by unfold Bd at hb; omega) (wpAny_pure ?_)
      dsimp only
      rw [List.forIn_nil]
      refine wpAny_pure ⟨?_, s₂.heap, _, rfl, fun _ _ e => e⟩
      unfold truthyV
      rw [Bool.eq_iff_iff]
      simp
  · intro C v s₂ m₂ E' hv hpv hn hm hk
    obtain ⟨o, ho, hov⟩ := has.mem v (by simpa using hv)
    have hb := hbo o ho
    cases o with
    | none => cases hov; cases hpv
    | some q =>
      obtain ⟨t, rfl⟩ := hov
      refine Call_method0 (hbase C) hline (wpAny_Name (wpAny_loadName_local hsc (hkx C) hn hm ?_) hxd)
      exact SBL.lower (by unfold Bd at hb; omega) fun _ => ⟨⟨q, t, _, rfl, rfl⟩, s₂.heap, _, rfl, fun _ _ e => e⟩
  · intro D h' tk' ys hD hlD hP hns hk htk'
    have hDL : D ≠ env.locals := by
      rintro rfl
      obtain ⟨o, _, _, ho, _⟩ := F.ns
      rw [hD] at ho; cases ho
    refine h D h' tk' ys.toList ⟨hns, fun b o e => hk b o ?_ (F.keep b o e), F.above⟩ hDL hD (by simpa using hlD) (strsAre_low has (by simpa using hP)) (fun b o n e => hk b o (fun q => n (by rw [q]; exact .head _)) e) htk'
    rintro rfl
    exact absurd (Heap.lt_size e) (Nat.not_lt.mpr F.above)
end

theorem lookup_dataOf (x : Str) : ∀ kvs : List (Str × Str), PySem.Spec.lookup (.str x) (dataOf kvs) = (lookupS kvs x).map PyData.str
  | [] => rfl
  | p :: r => by
    have ih := lookup_dataOf x r
    show (if PySem.Spec.same (.str p.1) (.str x) then some (PyData.str p.2) else PySem.Spec.lookup (.str x) (dataOf r)) = _
    have e : PySem.Spec.same (.str p.1) (.str x) = (p.1 == x) := rfl
    rw [e, ih]
    unfold lookupS
    rw [List.find?_cons]
    cases (p.1 == x) <;> rfl

section
variable {prog : Program} {w : World} {A : Around} {s : Shared} {h₀ : Heap} {L D d : Addr} {m : Str → Option Value} {news : List (Addr × Obj)} {E : Value → Shared → Prop} {Q : Value → Shared → Prop}
theorem in_led {o : Obj} {vs : List Value} {xs : List Str} {x : Str} {t : Tok} 
    (N : News h₀ L s.heap news) (hm : (D, o) ∈ news) (hc : o.cls = .type "list") (hd : ∃ n, o.data = .seq vs.toArray n) (hs : StrsAre vs xs) (h : Q (.bool (xs.any (· == x))) s) :
    wpAny (model prog w) A (compareOp .In (.str x t) (.ref D)) Q E s :=
  in_list_strs ⟨o, N.get hm, hc, hd⟩ hs h
theorem get_tab {kvs : List (Str × Str)} {x : Str} {t : Tok} (T₀ : StrTab prog w h₀ d (dataOf kvs)) (F : Fr h₀ L s.heap m) (hb : ∀ p ∈ kvs, p.2.length ≤ 1000)
    (h0 : lookupS kvs x = none → Q .none { s with toks := s.toks + 1 }) (h1 : ∀ a t', lookupS kvs x = some a → a.length ≤ 1000 → Q (.str a t') { s with toks := s.toks + 1 }) :
    wpAny (model prog w) A (call (.builtin "dict.get") [.ref d, .str x t]) Q E s := by
  refine call_get1_strTab (T₀.keep F.keep) fun v hv => ?_
  rw [lookup_dataOf] at hv
  cases e : lookupS kvs x with
  | none =>
    rw [e] at hv
    obtain rfl : v = .none := IsDatum.none (v := v) hv
    exact h0 e
  | some a =>
    rw [e] at hv
    have hl : a.length ≤ 1000 := by
      unfold lookupS at e
      obtain ⟨p, hp, rfl⟩ := Option.map_eq_some_iff.mp e
      exact hb p (List.mem_of_find?_eq_some hp)
    obtain ⟨t', rfl⟩ := IsDatum.str (v := v) (x := a) hv
    exact h1 a t' e hl
theorem noneBooked_of (X : (hd.heap_39 w.params).In h₀) (F : Fr h₀ L s.heap m) (h2 : (hd.heap_39 w.params).lookup 2 = some { cls := .none, data := .dict #[] }) : NoneBooked s.heap :=
  ⟨fun _ => none, ⟨_, #[], _, F.keep _ _ (X 2 _ h2), rfl, (fun e he => by simp at he), fun _ => rfl⟩, rfl⟩
theorem len_repl (x y z : Str) : (Txt.replace x y z).length ≤ x.length + (x.length + 1) * z.length := by
  unfold Txt.replace
  split
  · omega
  · have h1 := StrLaws.occ_length_le x y 0 x.length (x.length + 1)
    have hy : (glued y (partsBetween x (occurrences x y 0 x.length (x.length + 1)) y.length)).length = x.length := by rw [StrLaws.glued_between_self]
    rw [size_glued, length_partsBetween, Nat.add_sub_cancel] at hy
    rw [size_glued, length_partsBetween, Nat.add_sub_cancel]
    have h2 : (occurrences x y 0 x.length (x.length + 1)).length * z.length ≤ (x.length + 1) * z.length := Nat.mul_le_mul_right _ h1
    omega
theorem repl_line {x y z : Str} {t u v : Tok} (hb : NoneBooked s.heap) (hv : v ≠ 0) (huv : @LT.lt Nat _ v u) (hx : x.length ≤ 1000) (hz : z.length ≤ 1000)
    (hq : ∀ t' k, (Txt.replace x y z).length ≤ 1002000 → @LE.le Nat _ s.toks k → Q (.str (Txt.replace x y z) t') { s with toks := k }) :
    wpAny (model prog w) A (call (.builtin "str.replace") [.str x t, .str y u, .str z v]) Q E s :=
  wpAny_with_toks (n := s.toks) (Nat.le_refl _) <| SC.replaceW2 1000 1000 (by decide) (Nat.ne_of_gt (Nat.lt_of_le_of_lt (Nat.zero_le _) huv)) hv (Nat.ne_of_gt huv) hx hz (fun t' k ht => hq t' k (by
    have h1 := len_repl x y z
    have h2 : (x.length + 1) * z.length ≤ 1001 * 1000 := Nat.mul_le_mul (by omega) hz
    omega) ht) hb
theorem item0_led {o : Obj} {vs : List Value} {v : Value} {value slice : PySem.Expr} {u : Tok} (N : News h₀ L s.heap news) (hm : (D, o) ∈ news) (hc : o.cls = .type "list") (hd : ∃ n, o.data = .seq vs.toArray n) (hx : vs[0]? = some v) (h : Q v s)
    (hs : subscripted slice false (.ref D) (.int 0 u) = operate [.ref D, .int 0 u] (getItem (.ref D) (.int 0 u)) := by with_unfolding_all rfl) :
    wpAny (model prog w) A (subscriptTail value slice (.ref D) (.int 0 u)) Q E s :=
  have hl : s.heap.IsList D vs.toArray := ⟨o, N.get hm, hc, hd⟩
  tail_any hl.typeIs slot_list_getitem.lookup (wpAny_getItem_list hl (Int.le_refl 0) (by decide) (by simpa using hx) h) hs
theorem split_cons (x y : Str) : ∃ p0 ps, Txt.split x y = p0 :: ps := by
  unfold Txt.split
  split
  · exact ⟨_, _, rfl⟩
  · split
    · exact ⟨_, _, rfl⟩
    · cases e : partsBetween x (occurrences x y 0 x.length (x.length + 1)) y.length with
      | nil =>
        have := length_partsBetween x (occurrences x y 0 x.length (x.length + 1)) y.length
        rw [e] at this; simp at this
      | cons p r => exact ⟨_, _, rfl⟩
abbrev listO (vs : List Value) : Obj := { cls := .type "list", data := .seq vs.toArray }
theorem split_line {x y : Str} {t u : Tok} (F : Fr h₀ L s.heap m) (N : News h₀ L s.heap news) (hy : (y.length == 0) = false) (hx : x.length ≤ 1000)
    (h : ∀ D p0 t0 ps vs h' k, Txt.split x y = p0 :: ps → p0.length ≤ 1000 → vs.length = ps.length → ps.length ≤ 2000 → Fr h₀ L h' m → News h₀ L h' ((D, listO (.str p0 t0 :: vs)) :: news) → (∀ p ∈ news, p.1 < D) → Q (.ref D) { s with heap := h', toks := k }) :
    wpAny (model prog w) A (call (.builtin "str.split") [.str x t, .str y u]) Q E s := by
  refine splitN1A F N hy (fun l h' k e S hl I F' N' => ?_) (by rw [sizeLine_eq]; omega)
  obtain ⟨p0, ps, e2⟩ := split_cons x y
  have e3 := e.trans e2
  have hlen : ps.length ≤ 2000 := by
    have := congrArg List.length e2
    rw [List.length_cons] at this
    unfold Txt.split at this
    have h1 := StrLaws.occ_length_le x y 0 x.length (x.length + 1)
    have h2 := length_partsBetween x (occurrences x y 0 x.length (x.length + 1)) y.length
    split at this
    · rw [List.length_singleton] at this; omega
    · split at this
      · rw [List.length_singleton] at this; omega
      · rw [h2] at this; omega
  cases l with
  | nil => simp at e3
  | cons q r =>
    obtain ⟨q1, q2⟩ := q
    rw [List.map_cons] at e3
    obtain ⟨rfl, e4⟩ := List.cons.inj e3
    refine h _ q1 q2 ps (strValues r) h' k e2 ?_ ?_ hlen F' N' fun p hp => Heap.lt_size (N p hp).1
    · exact Nat.le_trans (hl q1 (by rw [e, e2]; exact .head _)) hx
    · rw [← e4]; simp [strValues]
theorem len_led {o : Obj} {vs : List Value} (N : News h₀ L s.heap news) (hm : (D, o) ∈ news) (hc : o.cls = .type "list") (hd : ∃ n, o.data = .seq vs.toArray n) (hl : vs.length ≤ 100000)
    (h : Q (.int vs.length (s.toks + 1)) { s with toks := s.toks + 1 + 1 }) : wpAny (model prog w) A (call (.builtin "len") [.ref D]) Q E s := by
  refine Calls.call_len_list ⟨o, N.get hm, hc, hd⟩ (by simp; omega) ?_
  have e : vs.toArray.size = vs.length := by simp
  rw [e]; exact h
theorem truthy_led {Q : Bool → Shared → Prop} {kvs : List (Str × Str)} (T₀ : StrTab prog w h₀ d (dataOf kvs)) (F : Fr h₀ L s.heap m) (hl : kvs.length ≤ 1000)
    (h : Q (!kvs.isEmpty) { s with toks := s.toks + 1 + 1 }) : wpAny (model prog w) A (truthy (.ref d)) Q E s := by
  refine truthy_tab (T₀.keep F.keep) (by simp [dataOf]; omega) ?_
  have e : (dataOf kvs).isEmpty = kvs.isEmpty := by unfold dataOf; cases kvs <;> rfl
  rw [e]; exact h
end

/-- the call's answer, in plain words -/
def aliasHit (small : List Str) (kvs : List (Str × Str)) (sep ll : Str) : Option Str :=
  match lookupS kvs ll with
  | some a => if (a.length != 0 && small.any (· == Txt.lower (Txt.replace a (Str.ofString "_") sep))) = true then some (Txt.replace a (Str.ofString "_") sep) else none
  | none => none
def partHit (small : List Str) (sep x : Str) : Option Str :=
  match Txt.split x sep with
  | p0 :: ps => if (decide (0 < ps.length) && small.any (· == Txt.lower p0)) = true then some p0 else none
  | [] => none
def negOne (small : List Str) (kvs : List (Str × Str)) (sep x : Str) : Option Str :=
  if small.any (· == Txt.lower x) = true then some x else
    match aliasHit small kvs sep (Txt.lower x) with
    | some a => some a
    | none => partHit small sep x
def negF (os : List (Option Str)) (kvs : List (Str × Str)) (sep : Str) (ps : List Str) : Option Str := ps.findSome? (negOne (smallF os) kvs sep)

theorem neg_self {small : List Str} {kvs : List (Str × Str)} {sep x : Str} (h : small.any (· == Txt.lower x) = true) : negOne small kvs sep x = some x := by
  unfold negOne; rw [if_pos h]
theorem neg_alias {small : List Str} {kvs : List (Str × Str)} {sep x a : Str} (h : small.any (· == Txt.lower x) = false) (h2 : aliasHit small kvs sep (Txt.lower x) = some a) : negOne small kvs sep x = some a := by
  unfold negOne; rw [if_neg (by rw [h]; decide), h2]
theorem neg_part {small : List Str} {kvs : List (Str × Str)} {sep x : Str} (h : small.any (· == Txt.lower x) = false) (h2 : aliasHit small kvs sep (Txt.lower x) = none) : negOne small kvs sep x = partHit small sep x := by
  unfold negOne; rw [if_neg (by rw [h]; decide), h2]
theorem alias_nil {small : List Str} {sep ll : Str} : aliasHit small [] sep ll = none := rfl
theorem alias_none {small : List Str} {kvs : List (Str × Str)} {sep ll : Str} (h : kvs.isEmpty = true) : aliasHit small kvs sep ll = none := by
  cases kvs with
  | nil => rfl
  | cons a r => cases h
theorem alias_miss {small : List Str} {kvs : List (Str × Str)} {sep ll : Str} (h : lookupS kvs ll = none) : aliasHit small kvs sep ll = none := by unfold aliasHit; rw [h]
theorem alias_empty {small : List Str} {kvs : List (Str × Str)} {sep ll a : Str} (h : lookupS kvs ll = some a) (h2 : (a.length : Int) = 0) : aliasHit small kvs sep ll = none := by
  have e : (a.length != 0) = false := by simp; omega
  unfold aliasHit; rw [h]; dsimp only; rw [e]; rfl
theorem alias_off {small : List Str} {kvs : List (Str × Str)} {sep ll a : Str} (h : lookupS kvs ll = some a) (h3 : small.any (· == Txt.lower (Txt.replace a (Str.ofString "_") sep)) = false) : aliasHit small kvs sep ll = none := by
  unfold aliasHit; rw [h]; dsimp only; rw [h3, Bool.and_false]; rfl
theorem alias_hit {small : List Str} {kvs : List (Str × Str)} {sep ll a : Str} (h : lookupS kvs ll = some a) (h2 : (a.length : Int) ≠ 0) (h3 : small.any (· == Txt.lower (Txt.replace a (Str.ofString "_") sep)) = true) :
    aliasHit small kvs sep ll = some (Txt.replace a (Str.ofString "_") sep) := by
  have e : (a.length != 0) = true := by simp; omega
  unfold aliasHit; rw [h]; dsimp only; rw [e, h3]; rfl
theorem part_hit {small : List Str} {sep x p0 : Str} {ps : List Str} {v : Value} {vs : List Value} (h : Txt.split x sep = p0 :: ps) (he : vs.length = ps.length) (h1 : (1 : Int) < ((v :: vs).length : Int)) (h3 : small.any (· == Txt.lower p0) = true) : partHit small sep x = some p0 := by
  have h2 : 0 < ps.length := by rw [List.length_cons] at h1; omega
  unfold partHit; rw [h]; dsimp only; rw [decide_eq_true h2, h3]; rfl
theorem part_one {small : List Str} {sep x p0 : Str} {ps : List Str} {v : Value} {vs : List Value} (h : Txt.split x sep = p0 :: ps) (he : vs.length = ps.length) (h1 : ¬ (1 : Int) < ((v :: vs).length : Int)) : partHit small sep x = none := by
  have h2 : ¬ 0 < ps.length := by rw [List.length_cons] at h1; omega
  unfold partHit; rw [h]; dsimp only; rw [decide_eq_false h2]; rfl
theorem part_off {small : List Str} {sep x p0 : Str} {ps : List Str} (h : Txt.split x sep = p0 :: ps) (h3 : small.any (· == Txt.lower p0) = false) : partHit small sep x = none := by
  unfold partHit; rw [h]; dsimp only; rw [h3, Bool.and_false]; rfl

theorem turnNext {h₀ h₁ h₂ : Heap} {L : Addr} {fp : List Addr} {Jn : (Str → Option Value) → Heap → Prop} {s : Shared} {Q : Flow → Shared → Prop} {m₂ : Str → Option Value} {tk₂ : Nat}
    (F : Fr h₀ L h₂ m₂) (k : ∀ b ∈ fp, ∀ o, h₁.get? b = some o → h₂.get? b = some o) (j : Jn m₂ h₂) : TurnEnd h₀ L fp Jn s h₁ Q .next { s with heap := h₂, toks := tk₂ } := ⟨h₂, tk₂, m₂, rfl, F, k, j⟩

theorem findSome_at {α β : Type} {f : α → Option β} : ∀ {xs : List α} {i : Nat} {x : α} {v : β}, xs[i]? = some x → (∀ j y, j < i → xs[j]? = some y → f y = none) → f x = some v → xs.findSome? f = some v
  | [], i, x, v, hx, _, _ => by simp at hx
  | a :: r, 0, x, v, hx, _, hv => by
    simp at hx; subst hx
    simp [hv]
  | a :: r, i + 1, x, v, hx, hn, hv => by
    have h0 := hn 0 a (by omega) (by simp)
    rw [List.findSome?_cons, h0]
    exact findSome_at (i := i) (by simpa using hx) (fun j y hj hy => hn (j + 1) y (by omega) (by simpa using hy)) hv
theorem findSome_none {α β : Type} {f : α → Option β} {xs : List α} (h : ∀ j y, j < xs.length → xs[j]? = some y → f y = none) : xs.findSome? f = none := by
  rw [List.findSome?_eq_none_iff]
  intro x hx
  obtain ⟨i, hi, rfl⟩ := List.mem_iff_getElem.mp hx
  exact h i _ hi (by simp)
end Mine

end

section
open PySem PySem.W PySem.Calls PyProof.Rows
set_option Elab.async false
set_option maxRecDepth 100000
set_option maxHeartbeats 8000000
namespace Mine
theorem fillK4 : PySem.Challenge.rw_ez5001_01.Holds → hd.heap_39 = hd.heap_39 := by
  k_fill
  intro _; rfl


local macro_rules | `(tactic| walk_at "execs nil") => `(tactic| (with_reducible refine wpAny_execs_nil ?_))
local macro_rules | `(tactic| walk_at "execs cons") => `(tactic| (with_reducible refine wpAny_execs_cons ?_))
local macro_rules | `(tactic| k_tabat) => `(tactic| exact TabAt.keep (by with_reducible assumption) (Fr.keep (by k_asm)))
local macro_rules | `(tactic| walk_at "compareOp In str ref") => `(tactic| (k_dflt (refine' in_led ?N ?m ?c ?d ?s ?_; (case N => k_asm); (case m => k_mem); (case c => assumption); (case d => assumption); (case s => assumption))))
local macro_rules | `(tactic| walk_at "call builtin:dict.get") => `(tactic| (k_dflt (refine' get_tab ?T ?F ?b ?_ ?_; (case T => assumption); (case F => k_asm); (case b => assumption); all_goals intros)))
local macro_rules | `(tactic| walk_at "call builtin:str.replace") => `(tactic| (k_dflt (refine' repl_line (noneBooked_of ?X ?F ?l) ?v ?u ?x ?z ?_; (case X => assumption); (case F => k_asm); (case l => k_is); (case v => assumption); (case u => ((try dsimp only); omega)); (case x => assumption); (case z => assumption); intro t' k' hl' ht'; (try dsimp only at ht'))))
local macro_rules | `(tactic| walk_at "call builtin:str.split") => `(tactic| (k_dflt (refine' split_line ?F ?N ?y ?x ?_; (case F => k_asm); (case N => k_asm); (case y => assumption); (case x => assumption); intro D' p0' t0' ps' vs' h' k' e0' e1' e2' e3' F' N' lt')))
local macro_rules | `(tactic| walk_at "call builtin:len") => `(tactic| (k_dflt (refine' len_led ?N ?m ?c ?d ?l ?_; (case N => k_asm); (case m => k_mem); (case c => rfl); (case d => exact ⟨_, rfl⟩); (case l => (simp only [List.length_cons]; omega)))))
local macro_rules | `(tactic| walk_at "subscriptTail") => `(tactic| (k_dflt (refine' item0_led ?N ?m ?c ?d ?x ?_; (case N => k_asm); (case m => k_mem); (case c => rfl); (case d => exact ⟨_, rfl⟩); (case x => rfl))))

local macro_rules | `(tactic| walk_at "truthy ref") => `(tactic| (k_dflt (refine' truthy_led ?T ?F ?l ?_; (case T => assumption); (case F => k_asm); (case l => assumption))))

section
variable {prog : Program} {w : World} {A : Around} {s : Shared} {loose : List Str} {mg mb : Str → Option Value}

theorem neg_call {pv tv : Value} {lp la : Addr} {pvs avs : List Value} {ps : List Str} {os : List (Option Str)} {kvs : List (Str × Str)} {sep : Str} {ts : Tok}
    (X : (hd.heap_39 w.params).In s.heap) (T : TopRead hd.view_39 loose mg mb s.heap) (hr : A.depth < recursionLimit) (hh : A.handled = none)
    (hp : pv = .ref lp) (hpl : s.heap.IsList lp pvs.toArray ∨ s.heap.IsTuple lp pvs.toArray) (hps : StrsAre pvs ps)
    (hal : s.heap.IsList la avs.toArray) (has : OptsAre avs os) (htab : TableV prog w s.heap tv kvs)
    (hts : ts ≠ 0) (hsl : (sep.length == 0) = false) (hsl2 : sep.length ≤ 1000) (hkb : ∀ p ∈ kvs, p.2.length ≤ 1000) (hkl : kvs.length ≤ 1000) (hlen : avs.length ≤ 1000) (hbp : ∀ x ∈ ps, x.length ≤ 1000) (hbo : ∀ o ∈ os, Bd 1000 o) (htk : @LT.lt Nat _ ts s.toks) :
    codeAny (model prog w) A (.call (.ref 23) ⟨[pv, .ref la, .str sep ts, tv], []⟩) (RetK s (fun v _ => OptV (negF os kvs sep ps) v)) s := by
  subst hp
  k_dflt (refine' enterM [(Str.ofString "preferred", .ref lp), (Str.ofString "available", .ref la), (Str.ofString "sep", .str sep ts), (Str.ofString "aliases", tv)] X T ?k6 ?k7 hr ?k9 ?kB ?_ ?c2 ?c3 ?c4 ?c5; (case k6 => k_is); (case k7 => k_is); (case k9 => first | exact BindsTo.of_eq (by rfl) | exact binds_K X rfl (by k_is) rfl (by rfl) (by rfl)); (case kB => exact locs rfl); (case c2 => exact rfl); (case c3 => exact rfl); (case c4 => exact rfl); (case c5 => decide))
  intro L h₁ tk hL ht F
  refine wpAny_execs_cons (comp_small hh rfl rfl rfl (by decide) (by decide) rfl (by decide) (by decide) (by decide) rfl (by rfl) (fun _ => rfl) (by rfl) F rfl (hal.at fun o e => F.keep la o e) has hlen hbo ?_)
  intro D h₂ tk₂ ys F₂ hDL hD hlD hys hk htk₂
  dsimp only at hk htk₂ ⊢
  replace F₂ : Fr s.heap L h₂ _ := F₂
  replace hDL : D ≠ L := hDL
  replace hk : KB [L] h₁ h₂ := hk
  have hlp : ∃ o, s.heap.get? lp = some o := by
    rcases hpl with ⟨o, ho, _⟩ | ⟨o, ho, _⟩ <;> exact ⟨o, ho⟩
  obtain ⟨olp, holp⟩ := hlp
  have hlpL : lp ≠ L := Nat.ne_of_lt (Nat.lt_of_lt_of_le (Heap.lt_size holp) hL)
  obtain ⟨oD, hoD, hcD, hdD⟩ := hlD
  have hD0 : s.heap.get? D = none := by
    cases e : s.heap.get? D with
    | none => rfl
    | some o => rw [F.keep _ _ e] at hD; cases hD
  refine wpAny_execs_cons ?_
  refine forSeqM (vs := pvs) (ax := lp) hh rfl (by rfl) F₂ (hpl.imp (fun x => x.at fun o e => F₂.keep _ _ e) (fun x => x.at fun o e => F₂.keep _ _ e)) hlpL (fun Q' hq => ld F₂ rfl hq)
    (fun i m h => h.get? D = some oD ∧ m (Str.ofString "available") = some (.ref D) ∧ m (Str.ofString "sep") = some (.str sep ts) ∧ m (Str.ofString "aliases") = some tv ∧ ∀ j y, j < i → ps[j]? = some y → negOne (smallF os) kvs sep y = none) ?_ ?_ ?_ ?_
  · intro h' hk'
    exact ⟨hk' _ _ hoD, rfl, rfl, rfl, fun j y hj => absurd hj (Nat.not_lt_zero _)⟩
  · rintro i m h h' ⟨a, b⟩ hk'
    refine ⟨hk' _ _ ?_ a, b⟩
    simp only [List.mem_cons, List.not_mem_nil, or_false, not_or]
    exact ⟨hDL, Nat.ne_of_lt (Heap.lt_size hoD)⟩
  · rintro i v m₁ h₃ tk₃ hv ⟨j1, j2, j3, j4, j5⟩ F₃ ⟨oI, hoI, _⟩ htk₃
    obtain ⟨x, hx, t, rfl⟩ := StrsAre.at hps i v hv
    have hbx := hbp x (List.mem_of_getElem? hx)
    have hLI : L < h₂.objs.size := F₂.ns.lt
    have hI0 : s.heap.get? h₂.objs.size = none := Heap.get?_none_of_le (Nat.le_trans hL (Nat.le_of_lt hLI))
    have N₃ : News s.heap L h₃ [(D, oD), (h₂.objs.size, oI)] := fun p hp => by
      rcases List.mem_cons.mp hp with rfl | hp
      · exact ⟨j1, hDL, hD0⟩
      · rw [List.mem_singleton.mp hp]; exact ⟨hoI, Nat.ne_of_gt hLI, hI0⟩
    have hlp3 : h₃.get? lp = some olp := F₃.keep _ _ holp
    have found : ∀ v t, negOne (smallF os) kvs sep x = some v → OptV (negF os kvs sep ps) (.str v t) := fun v t hv => by
      unfold negF
      rw [findSome_at hx j5 hv]
      exact ⟨t, rfl⟩
    have missed : negOne (smallF os) kvs sep x = none → ∀ j y, j < i + 1 → ps[j]? = some y → negOne (smallF os) kvs sep y = none := fun hn j y hj hy => by
      by_cases hji : j = i
      · subst hji; rw [hx] at hy; cases hy; exact hn
      · exact j5 j y (by omega) hy
    have stay : ∀ h' : Heap, h'.get? h₂.objs.size = some oI → (∀ b o, s.heap.get? b = some o → h'.get? b = some o) → ∀ b ∈ [h₂.objs.size, lp], ∀ o, h₃.get? b = some o → h'.get? b = some o := fun h' hI' k b hb o e => by
      rcases List.mem_cons.mp hb with rfl | hb
      · rw [hoI] at e; cases e; exact hI'
      · rw [List.mem_singleton.mp hb] at e ⊢; rw [hlp3] at e; cases e; exact k _ _ holp
    dsimp only at htk₃ ⊢
    replace F₃ := frKnown (x := Str.ofString "available") (frKnown (x := Str.ofString "sep") (frKnown (x := Str.ofString "aliases") F₃ j4) j3) j2
    clear j1 j2 j3 j4 j5 hv
    rcases htab with ⟨rfl, rfl⟩ | ⟨d, rfl, hT⟩
    all_goals k_steps
    all_goals (try dsimp only)
    all_goals first
      | exact (RetK.intro (by assumption) (found _ _ (by first
          | exact neg_self (by assumption)
          | exact neg_alias (by assumption) (alias_hit (by assumption) (by assumption) (by assumption))
          | exact (neg_part (by assumption) (by first | exact alias_none (by assumption) | exact alias_nil | exact alias_miss (by assumption) | exact alias_off (by assumption) (by assumption) | exact alias_empty (by assumption) (by assumption))).trans
              (part_hit (by assumption) (by assumption) (by assumption) (by assumption)))))
      | (refine' turnNext ?F ?k ?j
         (case F => assumption)
         (case k => exact stay _ (News.get (by assumption) (by k_mem)) (Fr.keep (by assumption)))
         (case j => exact ⟨News.get (by assumption) (by k_mem), rfl, rfl, rfl, missed ((neg_part (by assumption) (by first | exact alias_none (by assumption) | exact alias_nil | exact alias_miss (by assumption) | exact alias_off (by assumption) (by assumption) | exact alias_empty (by assumption) (by assumption))).trans
              (by first | exact part_off (by assumption) (by assumption) | exact part_one (by assumption) (by assumption) (by assumption)))⟩))
  · rintro h' tk' m' F' ⟨_, _, _, _, j5⟩ htk'
    refine wpAny_execs_cons (wpAny_Return_some (Constant_none ?_))
    refine RetK.intro F' ?_
    unfold negF
    rw [findSome_none fun j y hj hy => j5 j y (by rw [StrsAre.len hps]; exact hj) hy]
    rfl
end
end Mine

end

section
open PySem PySem.W PySem.Calls PyProof.Rows
set_option Elab.async false
set_option maxRecDepth 100000
namespace Mine

/-- the tree's answer when every ask is answered by `lt` -/
def runT {α : Type} (lt : Nat → Nat → Bool) : KasT α → α
  | .ret a => a
  | .ask i j k => runT lt (k (lt i j))

theorem runT_bind {α β : Type} (lt : Nat → Nat → Bool) (f : α → KasT β) : ∀ t : KasT α, runT lt (t.bind f) = runT lt (f (runT lt t))
  | .ret _ => rfl
  | .ask i j k => by
    show runT lt ((k (lt i j)).bind f) = _
    rw [runT_bind lt f (k (lt i j))]; rfl

theorem wp_of_run {α : Type} {cmp : Nat → Nat → (Bool → Shared → Prop) → Shared → Prop} {lt : Nat → Nat → Bool} {Inv : Shared → Prop}
    (hc : ∀ i j C s, Inv s → (∀ s', Inv s' → C (lt i j) s') → cmp i j C s) {Q : α → Shared → Prop} :
    ∀ (t : KasT α) (s : Shared), Inv s → (∀ s', Inv s' → Q (runT lt t) s') → t.kasWp cmp Q s
  | .ret a, s, hs, hq => hq s hs
  | .ask i j k, s, hs, hq => hc i j _ s hs fun s' hs' => wp_of_run hc (k (lt i j)) s' hs' hq

section
variable (key : Nat → Nat)
abbrev ltK (i j : Nat) : Bool := decide (key i < key j)

theorem keq {key : Nat → Nat} {p : Array Nat} {i n : Nat} (h : i = n) : key (p.getD i 0) ≤ key (p.getD n 0) := by subst h; exact Nat.le_refl _
def MinP (p : Array Nat) (n : Nat) : Prop := ∀ i, i < n → key (p.getD 0 0) ≤ key (p.getD i 0)
def LastP (p : Array Nat) (n : Nat) : Prop := ∀ i, i < n → key (p.getD (n - 1) 0) ≤ key (p.getD i 0)
variable {key}

theorem asc_min (p : Array Nat) : ∀ (f n : Nat), 1 ≤ n → MinP key p n →
    let m := runT (ltK key) (kas_asc p f n)
    n ≤ m ∧ m ≤ n + f ∧ MinP key p m ∧ (m < n + f → key (p.getD m 0) < key (p.getD (m - 1) 0)) ∧ (∀ i, n ≤ i → i < m → key (p.getD (i - 1) 0) ≤ key (p.getD i 0))
  | 0, n, _, h => ⟨Nat.le_refl _, Nat.le_refl _, h, fun h' => absurd h' (Nat.lt_irrefl _), fun i a b => absurd b (by show ¬ i < n; omega)⟩
  | f + 1, n, h1, h => by
    unfold kas_asc
    simp only [runT]
    by_cases hc : key (p.getD n 0) < key (p.getD (n - 1) 0)
    · simp only [decide_eq_true hc, if_true]
      exact ⟨Nat.le_refl _, Nat.le_add_right _ _, h, fun _ => hc, fun i a b => absurd b (by show ¬ i < n; omega)⟩
    · simp only [decide_eq_false hc, Bool.false_eq_true, if_false]
      have hm : MinP key p (n + 1) := fun i hi => by
        by_cases hin : i < n
        · exact h i hin
        · have : i = n := by omega
          subst this
          have := h (i - 1) (by omega)
          omega
      obtain ⟨a, b, c, d, e⟩ := asc_min p f (n + 1) (by omega) hm
      refine ⟨by omega, by omega, c, fun h' => d (by omega), fun i a' b' => ?_⟩
      by_cases hin : i = n
      · subst hin; omega
      · exact e i (by omega) b'

theorem getD_rev {p : Array Nat} {i j : Nat} (hj : j ≤ p.size) (k : Nat) : (kas_rev p i j).getD k 0 = if i ≤ k ∧ k < j then p.getD (i + j - 1 - k) 0 else p.getD k 0 := by
  have e := getElem?_mirror_all (xs := p) (i := i) hj k
  simp only [Array.getD_eq_getD_getElem?, kas_rev, e]
  split <;> rfl
theorem getD_bubble {p : Array Nat} {src d : Nat} (hs : src < p.size) (hd : d ≤ src) (k : Nat) :
    (bubble p src d).getD k 0 = if k = src - d then p.getD src 0 else if src - d < k ∧ k ≤ src then p.getD (k - 1) 0 else p.getD k 0 := by
  have e := getElem?_bubble (xs := p) hs d hd k
  simp only [Array.getD_eq_getD_getElem?, e]
  split <;> first | rfl | (split <;> rfl)

theorem rev_size (p : Array Nat) (i j : Nat) : (kas_rev p i j).size = p.size := mirror_size _ _ _ _
theorem rev_perm (p : Array Nat) (i j : Nat) : (kas_rev p i j).Perm p := mirror_perm _ _ _ _

/-- the last `q + 1` of the run are as small as its last -/
def TailP (key : Nat → Nat) (p : Array Nat) (n q : Nat) : Prop := q + 1 ≤ n ∧ ∀ i, n - (q + 1) ≤ i → i < n → key (p.getD i 0) ≤ key (p.getD (n - 1) 0)

theorem desc_last (N : Nat) : ∀ (f : Nat) (p : Array Nat) (n q : Nat), p.size = N → 1 ≤ n → n + f ≤ N → LastP key p n → TailP key p n q →
    let r := runT (ltK key) (kas_desc f p n q)
    r.1.Perm p ∧ n ≤ r.2.1 ∧ r.2.1 ≤ n + f ∧ LastP key r.1 r.2.1 ∧ TailP key r.1 r.2.1 r.2.2
  | 0, p, n, q, _, _, _, hl, ht => ⟨Array.Perm.refl _, Nat.le_refl _, Nat.le_refl _, hl, ht⟩
  | f + 1, p, n, q, hp, h1, hn, hl, ht => by
    unfold kas_desc
    simp only [runT]
    by_cases hc : key (p.getD n 0) < key (p.getD (n - 1) 0)
    · simp only [decide_eq_true hc, if_true]
      by_cases hq : q > 0
      · rw [if_pos hq]
        have hsz : (kas_rev p (n - (q + 1)) n).size = N := (rev_size _ _ _).trans hp
        have hg : ∀ k, (kas_rev p (n - (q + 1)) n).getD k 0 = if n - (q + 1) ≤ k ∧ k < n then p.getD (n - (q + 1) + n - 1 - k) 0 else p.getD k 0 := fun k => getD_rev (by omega) k
        have hl' : LastP key (kas_rev p (n - (q + 1)) n) (n + 1) := fun i hi => by
          rw [Nat.add_sub_cancel, hg n, if_neg (by omega), hg i]
          have t1 := ht.1
          split
          · rename_i hh
            have := hl (n - (q + 1) + n - 1 - i) (by omega)
            omega
          · by_cases hin : i < n
            · have := hl i hin; omega
            · have : i = n := by omega
              subst this; exact Nat.le_refl _
        obtain ⟨a, b, c, d, e⟩ := desc_last N f _ (n + 1) 0 hsz (by omega) (by omega) hl' ⟨by omega, fun i a b => keq (by omega)⟩
        exact ⟨a.trans (rev_perm _ _ _), by omega, by omega, d, e⟩
      · rw [if_neg hq]
        have hl' : LastP key p (n + 1) := fun i hi => by
          rw [Nat.add_sub_cancel]
          by_cases hin : i < n
          · have := hl i hin; omega
          · have : i = n := by omega
            subst this; exact Nat.le_refl _
        obtain ⟨a, b, c, d, e⟩ := desc_last N f p (n + 1) 0 hp (by omega) (by omega) hl' ⟨by omega, fun i a b => keq (by omega)⟩
        exact ⟨a, by omega, by omega, d, e⟩
    · simp only [decide_eq_false hc, Bool.false_eq_true, if_false, runT]
      by_cases hd : key (p.getD (n - 1) 0) < key (p.getD n 0)
      · simp only [decide_eq_true hd, if_true, runT]
        exact ⟨Array.Perm.refl _, Nat.le_refl _, Nat.le_add_right _ _, hl, ht⟩
      · simp only [decide_eq_false hd, Bool.false_eq_true, if_false]
        have hl' : LastP key p (n + 1) := fun i hi => by
          rw [Nat.add_sub_cancel]
          by_cases hin : i < n
          · have := hl i hin; omega
          · have : i = n := by omega
            subst this; exact Nat.le_refl _
        have ht' : TailP key p (n + 1) (q + 1) := ⟨by have := ht.1; omega, fun i a b => by
          rw [Nat.add_sub_cancel]
          by_cases hin : i < n
          · have := ht.2 i (by omega) hin; omega
          · have : i = n := by omega
            subst this; exact Nat.le_refl _⟩
        obtain ⟨a, b, c, d, e⟩ := desc_last N f p (n + 1) (q + 1) hp (by omega) (by omega) hl' ht'
        exact ⟨a, by omega, by omega, d, e⟩

/-- what a count gives: a run of `m`, its head least -/
def CountP (key : Nat → Nat) (p : Array Nat) (N : Nat) (r : Nat × Array Nat) : Prop := r.2.Perm p ∧ 1 ≤ r.1 ∧ r.1 ≤ N ∧ MinP key r.2 r.1

theorem tail3_count {N n : Nat} {p : Array Nat} (hp : p.size = N) (h1 : 1 ≤ n) (hn : n ≤ N) (hl : LastP key p n) : CountP key p N (runT (ltK key) (kas_tail3 n N p)) := by
  unfold kas_tail3
  rw [runT_bind]
  have hm : MinP key (kas_rev p 0 n) n := fun i hi => by
    have hg : ∀ k, (kas_rev p 0 n).getD k 0 = if 0 ≤ k ∧ k < n then p.getD (0 + n - 1 - k) 0 else p.getD k 0 := fun k => getD_rev (by omega) k
    rw [hg 0, hg i, if_pos (by omega), if_pos (by omega)]
    have := hl (0 + n - 1 - i) (by omega)
    rw [show 0 + n - 1 - 0 = n - 1 by omega]
    exact this
  obtain ⟨a, b, c, _⟩ := asc_min (key := key) (kas_rev p 0 n) (N - n) n h1 hm
  exact ⟨rev_perm _ _ _, by show 1 ≤ runT (ltK key) (kas_asc (kas_rev p 0 n) (N - n) n); omega, by show runT (ltK key) (kas_asc (kas_rev p 0 n) (N - n) n) ≤ N; omega, c⟩

theorem descPart_count {N n : Nat} {p : Array Nat} (hp : p.size = N) (h1 : 1 ≤ n) (hn : n < N) (hl : LastP key p (n + 1)) : CountP key p N (runT (ltK key) (kas_descPart n N p)) := by
  unfold kas_descPart
  rw [runT_bind]
  obtain ⟨a, b, c, d, e⟩ := desc_last (key := key) N (N - (n + 1)) p (n + 1) 0 hp (by omega) (by omega) hl ⟨by omega, fun i a b => keq (by omega)⟩
  generalize runT (ltK key) (kas_desc (N - (n + 1)) p (n + 1) 0) = r at a b c d e
  obtain ⟨p', n', q⟩ := r
  dsimp only at a b c d e ⊢
  have hp' : p'.size = N := a.size_eq.trans hp
  split
  · rename_i hq
    have hg : ∀ k, (kas_rev p' (n' - (q + 1)) n').getD k 0 = if n' - (q + 1) ≤ k ∧ k < n' then p'.getD (n' - (q + 1) + n' - 1 - k) 0 else p'.getD k 0 := fun k => getD_rev (by omega) k
    have hl' : LastP key (kas_rev p' (n' - (q + 1)) n') n' := fun i hi => by
      have t1 := e.1
      rw [hg (n' - 1), if_pos (by omega), hg i]
      have e1 := e.2 (n' - (q + 1) + n' - 1 - (n' - 1)) (by omega) (by omega)
      split
      · have := d (n' - (q + 1) + n' - 1 - i) (by omega); omega
      · have := d i hi; omega
    obtain ⟨x, y, z, t⟩ := tail3_count (key := key) (N := N) ((rev_size _ _ _).trans hp') (by omega) (by omega) hl'
    exact ⟨x.trans ((rev_perm _ _ _).trans a), y, z, t⟩
  · obtain ⟨x, y, z, t⟩ := tail3_count (key := key) (N := N) hp' (by omega) (by omega) d
    exact ⟨x.trans a, y, z, t⟩

theorem count_count {N : Nat} {p : Array Nat} (hp : p.size = N) (h1 : 1 ≤ N) : CountP key p N (runT (ltK key) (kas_count N p)) := by
  unfold kas_count
  rw [runT_bind]
  obtain ⟨a, b, c, d, e⟩ := asc_min (key := key) p (N - 1) 1 (Nat.le_refl _) (fun i hi => keq (by omega))
  generalize runT (ltK key) (kas_asc p (N - 1) 1) = m at a b c d e
  by_cases hm : m = N
  · subst hm
    simp only [beq_self_eq_true, if_true, runT]
    exact ⟨Array.Perm.refl _, a, Nat.le_refl _, c⟩
  · rw [if_neg (by simpa using hm)]
    have hlt := d (by omega)
    have last1 : ∀ i, i < m → key (p.getD m 0) < key (p.getD i 0) → True := fun _ _ _ => trivial
    by_cases hm1 : m > 1
    · rw [if_pos hm1]
      simp only [runT]
      by_cases hc : key (p.getD 0 0) < key (p.getD (m - 1) 0)
      · simp only [decide_eq_true hc, if_true, runT]
        exact ⟨Array.Perm.refl _, a, by show m ≤ N; omega, c⟩
      · simp only [decide_eq_false hc, Bool.false_eq_true, if_false]
        have hg : ∀ k, (kas_rev p 0 m).getD k 0 = if 0 ≤ k ∧ k < m then p.getD (0 + m - 1 - k) 0 else p.getD k 0 := fun k => getD_rev (by omega) k
        have hl : LastP key (kas_rev p 0 m) (m + 1) := fun i hi => by
          rw [Nat.add_sub_cancel, hg m, if_neg (by omega), hg i]
          split
          · have := c (0 + m - 1 - i) (by omega); omega
          · have : i = m := by omega
            subst this; exact Nat.le_refl _
        obtain ⟨x, y, z, t⟩ := descPart_count (key := key) (N := N) (n := m) ((rev_size _ _ _).trans hp) a (by omega) hl
        exact ⟨x.trans (rev_perm _ _ _), y, z, t⟩
    · rw [if_neg hm1]
      have hm' : m = 1 := by omega
      subst hm'
      refine descPart_count hp (Nat.le_refl _) (by omega) fun i hi => ?_
      have : i = 0 ∨ i = 1 := by omega
      rcases this with rfl | rfl
      · exact Nat.le_of_lt hlt
      · exact Nat.le_refl _

theorem place_at (p : Array Nat) (k : Nat) : ∀ (f l r : Nat), r - l ≤ f → l ≤ r → r ≤ k → (r = k ∨ key (p.getD k 0) < key (p.getD r 0)) → (l = 0 ∨ key (p.getD (l - 1) 0) ≤ key (p.getD k 0)) →
    let m := runT (ltK key) (kas_place p k f l r)
    m ≤ k ∧ (m = k ∨ key (p.getD k 0) < key (p.getD m 0)) ∧ (m = 0 ∨ key (p.getD (m - 1) 0) ≤ key (p.getD k 0))
  | 0, l, r, hf, hlr, hrk, hr, hl => by
    have : l = r := by omega
    subst this
    exact ⟨hrk, hr, hl⟩
  | f + 1, l, r, hf, hlr, hrk, hr, hl => by
    unfold kas_place
    by_cases h : l ≥ r
    · rw [if_pos h]
      have : l = r := by omega
      subst this
      exact ⟨hrk, hr, hl⟩
    · rw [if_neg h]
      simp only [runT]
      by_cases hc : key (p.getD k 0) < key (p.getD ((l + r) / 2) 0)
      · simp only [decide_eq_true hc, if_true]
        exact place_at p k f l ((l + r) / 2) (by omega) (by omega) (by omega) (.inr hc) hl
      · simp only [decide_eq_false hc, Bool.false_eq_true, if_false]
        exact place_at p k f ((l + r) / 2 + 1) r (by omega) (by omega) hrk hr (.inr (by rw [Nat.add_sub_cancel]; omega))

theorem bin_min (N : Nat) : ∀ (f : Nat) (p : Array Nat) (k : Nat), p.size = N → 1 ≤ k → k + f = N → MinP key p k →
    let r := runT (ltK key) (kas_bin f p k)
    r.Perm p ∧ MinP key r N
  | 0, p, k, _, _, hk, hm => ⟨Array.Perm.refl _, (show k = N by omega) ▸ hm⟩
  | f + 1, p, k, hp, h1, hk, hm => by
    unfold kas_bin
    rw [runT_bind]
    obtain ⟨a, b, c⟩ := place_at (key := key) p k k 0 k (by omega) (Nat.zero_le _) (Nat.le_refl _) (.inl rfl) (.inl rfl)
    generalize runT (ltK key) (kas_place p k k 0 k) = l at a b c
    have hg : ∀ i, (bubble p k (k - l)).getD i 0 = if i = k - (k - l) then p.getD k 0 else if k - (k - l) < i ∧ i ≤ k then p.getD (i - 1) 0 else p.getD i 0 := fun i => getD_bubble (by omega) (by omega) i
    have hl : k - (k - l) = l := by omega
    rw [hl] at hg
    have hm' : MinP key (bubble p k (k - l)) (k + 1) := fun i hi => by
      rw [hg 0, hg i]
      by_cases hl0 : l = 0
      · subst hl0
        rw [if_pos rfl]
        have h0 : key (p.getD k 0) < key (p.getD 0 0) := b.resolve_left (by omega)
        split
        · exact Nat.le_refl _
        · split
          · have := hm (i - 1) (by omega); omega
          · omega
      · have hc := c.resolve_left hl0
        have h2 := hm (l - 1) (by omega)
        rw [if_neg (by omega), if_neg (by omega)]
        split
        · omega
        · split
          · exact hm (i - 1) (by omega)
          · exact hm i (by omega)
    obtain ⟨x, y⟩ := bin_min N f _ (k + 1) ((bubble_size _ _ _).trans hp) (by omega) (by omega) hm'
    exact ⟨x.trans (bubble_perm _ _ _), y⟩

theorem sort_min {N : Nat} (h1 : 1 ≤ N) : let r := runT (ltK key) (kas_sort N)
    r.size = N ∧ r.getD 0 0 < N ∧ ∀ j, j < N → key (r.getD 0 0) ≤ key j := by
  have all : ∀ r : Array Nat, r.Perm (List.toArray (List.range N)) → MinP key r N → r.size = N ∧ r.getD 0 0 < N ∧ ∀ j, j < N → key (r.getD 0 0) ≤ key j := by
    intro r hp hm
    have hs : r.size = N := by rw [hp.size_eq]; simp
    have hl : r.toList.Perm (List.range N) := Array.perm_iff_toList_perm.mp hp
    have hmem : ∀ x, x ∈ r.toList ↔ x < N := fun x => by rw [hl.mem_iff]; exact List.mem_range
    refine ⟨hs, ?_, fun j hj => ?_⟩
    · refine (hmem _).mp ?_
      have e : r.getD 0 0 = r[0]'(by omega) := by simp [Array.getD, show 0 < r.size by omega]
      rw [e]
      exact Array.mem_toList_iff.mpr (Array.getElem_mem _)
    · obtain ⟨i, hi, e⟩ := Array.mem_iff_getElem.mp (Array.mem_toList_iff.mp ((hmem j).mpr hj))
      have := hm i (by omega)
      have e2 : r.getD i 0 = j := by rw [← e]; simp [Array.getD, hi]
      rw [e2] at this
      exact this
  intro r
  show r.size = N ∧ r.getD 0 0 < N ∧ ∀ j, j < N → key (r.getD 0 0) ≤ key j
  have hr : r = runT (ltK key) (kas_sort N) := rfl
  unfold kas_sort at hr
  rw [runT_bind] at hr
  obtain ⟨a, b, c, d⟩ := count_count (key := key) (p := List.toArray (List.range N)) (N := N) (by simp) h1
  generalize runT (ltK key) (kas_count N (List.toArray (List.range N))) = q at a b c d hr
  obtain ⟨m, p⟩ := q
  dsimp only at a b c d hr
  by_cases hm : m < N
  · rw [if_pos hm] at hr
    have e : max m 1 = m := by omega
    rw [e] at hr
    obtain ⟨x, y⟩ := bin_min (key := key) N (N - m) p m (by rw [a.size_eq]; simp) b (by omega) d
    rw [← hr] at x y
    exact all r (x.trans a) y
  · rw [if_neg hm] at hr
    have : m = N := by omega
    subst this
    simp only [runT] at hr
    rw [hr]
    exact all p a d
end

/-- all that is asked lies below N -/
def Within (N : Nat) {α : Type} : KasT α → Prop
  | .ret _ => True
  | .ask i j k => i < N ∧ j < N ∧ ∀ b, Within N (k b)
theorem within_bind {N : Nat} {α β : Type} {f : α → KasT β} {lt : Nat → Nat → Bool} : ∀ t : KasT α, Within N t → (∀ a, Within N (f a)) → Within N (t.bind f)
  | .ret a, _, h => h a
  | .ask i j k, ⟨a, b, c⟩, h => ⟨a, b, fun x => within_bind (lt := lt) (k x) (c x) h⟩
theorem wp_of_within {α : Type} {N : Nat} {cmp : Nat → Nat → (Bool → Shared → Prop) → Shared → Prop} {lt : Nat → Nat → Bool} {Inv : Shared → Prop}
    (hc : ∀ i j C s, i < N → j < N → Inv s → (∀ s', Inv s' → C (lt i j) s') → cmp i j C s) {Q : α → Shared → Prop} :
    ∀ (t : KasT α) (s : Shared), Within N t → Inv s → (∀ s', Inv s' → Q (runT lt t) s') → t.kasWp cmp Q s
  | .ret _, s, _, hs, hq => hq s hs
  | .ask i j k, s, hw, hs, hq => hc i j _ s hw.1 hw.2.1 hs fun s' hs' => wp_of_within hc (k (lt i j)) s' (hw.2.2 _) hs' hq

/-- every place of the array holds a number below N -/
def Low (N : Nat) (p : Array Nat) : Prop := ∀ k, p.getD k 0 < N
theorem low_of_perm {N : Nat} {p q : Array Nat} (h : p.Perm q) (hq : Low N q) : Low N p := fun k => by
  by_cases hk : k < p.size
  · have e : p.getD k 0 = p[k] := by simp [Array.getD, hk]
    rw [e]
    have hm : p[k] ∈ q := by
      have h1 : p.toList.Perm q.toList := Array.perm_iff_toList_perm.mp h
      exact Array.mem_toList_iff.mp (h1.mem_iff.mp (Array.mem_toList_iff.mpr (Array.getElem_mem hk)))
    obtain ⟨i, hi, e2⟩ := Array.mem_iff_getElem.mp hm
    have := hq i
    have e3 : q.getD i 0 = q[i] := by simp [Array.getD, hi]
    rw [e3, e2] at this
    exact this
  · have e : p.getD k 0 = 0 := by simp [Array.getD, hk]
    rw [e]
    have := hq (q.size)
    have e3 : q.getD q.size 0 = 0 := by simp [Array.getD]
    rw [e3] at this
    exact this
theorem within_asc {N : Nat} {p : Array Nat} (hp : Low N p) : ∀ f n, Within N (kas_asc p f n)
  | 0, _ => trivial
  | f + 1, n => by
    unfold kas_asc
    refine ⟨hp _, hp _, fun b => ?_⟩
    cases b
    · exact within_asc hp f (n + 1)
    · exact trivial
theorem within_desc {N : Nat} : ∀ f (p : Array Nat) n q, Low N p → Within N (kas_desc f p n q)
  | 0, _, _, _, _ => trivial
  | f + 1, p, n, q, hp => by
    unfold kas_desc
    refine ⟨hp _, hp _, fun b => ?_⟩
    cases b
    · simp only [Bool.false_eq_true, if_false]
      refine ⟨hp _, hp _, fun d => ?_⟩
      cases d
      · exact within_desc f p (n + 1) (q + 1) hp
      · exact trivial
    · simp only [if_true]
      split
      · exact within_desc f _ (n + 1) 0 (low_of_perm (rev_perm _ _ _) hp)
      · exact within_desc f p (n + 1) 0 hp
/-- what a tree may hand back -/
def Back {α : Type} (P : α → Prop) : KasT α → Prop
  | .ret a => P a
  | .ask _ _ k => ∀ b, Back P (k b)
theorem within_bindP {N : Nat} {α β : Type} {P : α → Prop} {f : α → KasT β} : ∀ t : KasT α, Within N t → Back P t → (∀ a, P a → Within N (f a)) → Within N (t.bind f)
  | .ret a, _, hb, h => h a hb
  | .ask i j k, ⟨a, b, c⟩, hb, h => ⟨a, b, fun x => within_bindP (k x) (c x) (hb x) h⟩
theorem back_bind {α β : Type} {P : α → Prop} {P' : β → Prop} {f : α → KasT β} : ∀ t : KasT α, Back P t → (∀ a, P a → Back P' (f a)) → Back P' (t.bind f)
  | .ret a, hb, h => h a hb
  | .ask _ _ k, hb, h => fun x => back_bind (k x) (hb x) h
theorem back_true {α : Type} : ∀ t : KasT α, Back (fun _ => True) t
  | .ret _ => trivial
  | .ask _ _ k => fun x => back_true (k x)
theorem back_desc {N : Nat} : ∀ f (p : Array Nat) n q, Low N p → Back (fun r => Low N r.1) (kas_desc f p n q)
  | 0, _, _, _, hp => hp
  | f + 1, p, n, q, hp => by
    unfold kas_desc
    intro b
    cases b
    · simp only [Bool.false_eq_true, if_false]
      intro d
      cases d
      · exact back_desc f p (n + 1) (q + 1) hp
      · exact hp
    · simp only [if_true]
      split
      · exact back_desc f _ (n + 1) 0 (low_of_perm (rev_perm _ _ _) hp)
      · exact back_desc f p (n + 1) 0 hp
theorem within_tail3 {N n m : Nat} {p : Array Nat} (hp : Low N p) : Within N (kas_tail3 n m p) ∧ Back (fun r => Low N r.2) (kas_tail3 n m p) := by
  have hr := low_of_perm (rev_perm p 0 n) hp
  unfold kas_tail3
  exact ⟨within_bindP (P := fun _ => True) _ (within_asc hr _ _) (back_true _) fun _ _ => trivial, back_bind (P := fun _ => True) _ (back_true _) fun _ _ => hr⟩
theorem within_descPart {N n m : Nat} {p : Array Nat} (hp : Low N p) : Within N (kas_descPart n m p) ∧ Back (fun r => Low N r.2) (kas_descPart n m p) := by
  unfold kas_descPart
  refine ⟨within_bindP _ (within_desc _ _ _ _ hp) (back_desc _ _ _ _ hp) fun r hr => ?_, back_bind _ (back_desc _ _ _ _ hp) fun r hr => ?_⟩
  · split
    · exact (within_tail3 (low_of_perm (rev_perm _ _ _) hr)).1
    · exact (within_tail3 hr).1
  · split
    · exact (within_tail3 (low_of_perm (rev_perm _ _ _) hr)).2
    · exact (within_tail3 hr).2
theorem within_count {N m : Nat} {p : Array Nat} (hp : Low N p) : Within N (kas_count m p) ∧ Back (fun r => Low N r.2) (kas_count m p) := by
  unfold kas_count
  refine ⟨within_bindP (P := fun _ => True) _ (within_asc hp _ _) (back_true _) fun n _ => ?_, back_bind (P := fun _ => True) _ (back_true _) fun n _ => ?_⟩
  · split
    · exact trivial
    · split
      · refine ⟨hp _, hp _, fun b => ?_⟩
        cases b
        · exact (within_descPart (low_of_perm (rev_perm _ _ _) hp)).1
        · exact trivial
      · exact (within_descPart hp).1
  · split
    · exact hp
    · split
      · intro b
        cases b
        · exact (within_descPart (low_of_perm (rev_perm _ _ _) hp)).2
        · exact hp
      · exact (within_descPart hp).2
theorem within_place {N : Nat} {p : Array Nat} (hp : Low N p) (k : Nat) : ∀ f l r, Within N (kas_place p k f l r)
  | 0, _, _ => trivial
  | f + 1, l, r => by
    unfold kas_place
    split
    · exact trivial
    · refine ⟨hp _, hp _, fun b => ?_⟩
      cases b
      · exact within_place hp k f _ _
      · exact within_place hp k f _ _
theorem within_bin {N : Nat} : ∀ f (p : Array Nat) k, Low N p → Within N (kas_bin f p k)
  | 0, _, _, _ => trivial
  | f + 1, p, k, hp => by
    unfold kas_bin
    exact within_bindP (P := fun _ => True) _ (within_place hp _ _ _ _) (back_true _) fun l _ => within_bin f _ _ (low_of_perm (bubble_perm _ _ _) hp)
theorem within_sort {N : Nat} (h1 : 1 ≤ N) : Within N (kas_sort N) := by
  have hp : Low N (List.toArray (List.range N)) := fun k => by
    by_cases hk : k < N
    · simp [Array.getD, hk]
    · simp [Array.getD, hk]; omega
  unfold kas_sort
  refine within_bindP _ (within_count hp).1 (within_count hp).2 fun r hr => ?_
  split
  · exact within_bin _ _ _ hr
  · exact trivial
end Mine

end

section
open PySem PySem.W PySem.Calls PyProof.Rows Builtin Builtin.Str
set_option Elab.async false
set_option maxRecDepth 100000
set_option linter.unusedVariables false
namespace Mine

/-- one hit's marks: its place, its way, its name -/
abbrev Hit := Nat × Nat × Str
def hit0 (place : Nat) (x th : Str) : List Hit := if (Txt.lower x == th) = true then [(place, 0, x)] else []
def hit1 (kvs : List (Str × Str)) (sep : Str) (place : Nat) (x th : Str) : List Hit :=
  match lookupS kvs (Txt.lower x) with
  | some a => if (a.length != 0 && Txt.lower (Txt.replace a (Str.ofString "_") sep) == th) = true then [(place, 1, Txt.replace a (Str.ofString "_") sep)] else []
  | none => []
def hit2 (sep : Str) (place : Nat) (x th : Str) : List Hit :=
  match Txt.split x sep with
  | p0 :: ps => if (decide (0 < ps.length) && Txt.lower p0 == th) = true then [(place, 2, p0)] else []
  | [] => []
def hitOne (kvs : List (Str × Str)) (sep : Str) (place : Nat) (x th : Str) : List Hit := hit0 place x th ++ hit1 kvs sep place x th ++ hit2 sep place x th
def hitsAt (small : List Str) (kvs : List (Str × Str)) (sep : Str) (place : Nat) (x : Str) : List Hit := small.flatMap (hitOne kvs sep place x)
def hitsUp (small : List Str) (kvs : List (Str × Str)) (sep : Str) (ps : List Str) : Nat → List Hit
  | 0 => []
  | i + 1 => hitsUp small kvs sep ps i ++ (match ps[i]? with | some x => hitsAt small kvs sep i x | none => [])

def LeN (a b : Nat) : Prop := a ≤ b
abbrev tupO (vs : List Value) : Obj := { cls := .type "tuple", data := .seq vs.toArray }
def IsHit (tups : List (Addr × Obj)) (v : Value) (q : Hit) : Prop := ∃ t a b c, v = .ref t ∧ (t, tupO [.int (q.1 : Int) a, .int (q.2.1 : Int) b, .str q.2.2 c]) ∈ tups
def HitsV (tups : List (Addr × Obj)) (hv : List Value) (acc : List Hit) : Prop := Paired (IsHit tups) hv acc
theorem HitsV.mono {tups tups' : List (Addr × Obj)} {hv : List Value} {acc : List Hit} (h : HitsV tups hv acc) (hs : ∀ p ∈ tups, p ∈ tups') : HitsV tups' hv acc := by
  unfold HitsV at h ⊢
  induction h with
  | nil => exact .nil
  | cons h1 _ ih =>
    obtain ⟨t, a, b, c, e, m⟩ := h1
    exact .cons ⟨t, a, b, c, e, hs _ m⟩ ih

/-- the hits that stand so far: the list, the tuples, the rest of the ledger -/
def HS (h₀ : Heap) (L hA : Addr) (rest : List (Addr × Obj)) (ex : List Addr) (acc : List Hit) (h : Heap) : Prop :=
  ∃ hv n tups, News h₀ L h ((hA, W.listOf hv.toArray n) :: (rest ++ tups)) ∧ HitsV tups hv acc ∧ (∀ p ∈ tups, p.2.cls = .type "tuple" ∧ p.1 ∉ ex) ∧ (∀ p ∈ rest, p.1 ≠ hA)

theorem HS.grow {h₀ h : Heap} {L hA I : Addr} {o : Obj} {rest : List (Addr × Obj)} {ex : List Addr} {acc : List Hit} (H : HS h₀ L hA rest ex acc h) (ho : h.get? I = some o) (hL : I ≠ L) (h0 : h₀.get? I = none) (hI : I ≠ hA) : HS h₀ L hA ((I, o) :: rest) ex acc h := by
  obtain ⟨hv, n, tups, N, c, d, e⟩ := H
  refine ⟨hv, n, tups, fun p hp => ?_, c, d, fun p hp => ?_⟩
  · rcases List.mem_cons.mp hp with rfl | hp
    · exact N _ (.head _)
    · rcases List.mem_cons.mp hp with rfl | hp
      · exact ⟨ho, hL, h0⟩
      · exact N p (.tail _ hp)
  · rcases List.mem_cons.mp hp with rfl | hp
    · exact hI
    · exact e p hp
theorem HS.ne {h₀ h : Heap} {L hA I : Addr} {o : Obj} {rest : List (Addr × Obj)} {ex : List Addr} {acc : List Hit} (H : HS h₀ L hA rest ex acc h) (ho : h.get? I = some o) (hc : o.cls ≠ .type "list") : I ≠ hA := by
  obtain ⟨hv, n, tups, N, _⟩ := H
  rintro rfl
  have z := (N _ (.head _)).1
  dsimp only at z
  rw [ho] at z; cases z
  exact hc rfl
theorem HS.more {h₀ h : Heap} {L hA I : Addr} {rest : List (Addr × Obj)} {ex : List Addr} {acc : List Hit} (H : HS h₀ L hA rest ex acc h) (hI : h.objs.size ≤ I) : HS h₀ L hA rest (I :: ex) acc h := by
  obtain ⟨hv, n, tups, N, c, d, e⟩ := H
  refine ⟨hv, n, tups, N, c, fun p hp => ⟨(d p hp).1, fun q => ?_⟩, e⟩
  rcases List.mem_cons.mp q with q | q
  · have z := Heap.lt_size (N p (.tail _ (List.mem_append_right _ hp))).1
    rw [q] at z
    exact absurd z (Nat.not_lt.mpr hI)
  · exact (d p hp).2 q
theorem HS.mono {h₀ h h' : Heap} {L hA : Addr} {rest : List (Addr × Obj)} {ex : List Addr} {acc : List Hit} (H : HS h₀ L hA rest ex acc h) (hk : ∀ b o, h.get? b = some o → h'.get? b = some o) : HS h₀ L hA rest ex acc h' := by
  obtain ⟨hv, n, tups, N, r⟩ := H
  exact ⟨hv, n, tups, fun p hp => ⟨hk _ _ (N p hp).1, (N p hp).2⟩, r⟩
abbrev up (m : Str → Option Value) (x : Str) (v : Value) : Str → Option Value := fun y => if y = x then some v else m y
theorem frSame {h₀ h : Heap} {L : Addr} {m m₀ : Str → Option Value} {x : Str} {v : Value} (F : Fr h₀ L h (fun y => if y = x then some v else m y)) (hm : ∀ z, z ≠ x → m z = m₀ z) : Fr h₀ L h (up m₀ x v) := by
  have e : up m₀ x v = fun y => if y = x then some v else m y := by
    funext z
    by_cases h : z = x
    · simp [h]
    · simp [h, hm z h]
  rw [e]; exact F
theorem frBack {h₀ h : Heap} {L : Addr} {m m₀ : Str → Option Value} {x : Str} (F : Fr h₀ L h m) (hm : ∀ z, z ≠ x → m z = m₀ z) : Fr h₀ L h (fun y => if y = x then m x else m₀ y) := by
  have e : (fun y => if y = x then m x else m₀ y) = m := by
    funext z
    by_cases h : z = x
    · simp [h]
    · simp [h, hm z h]
  rw [e]; exact F
def RangeE (s : Shared) (h₀ : Heap) (L : Addr) (m : Str → Option Value) (news : List (Addr × Obj)) (a b c : Int) (xv : Value) (s₁ : Shared) : Prop :=
  ∃ r t u v h' tk, xv = .ref r ∧ s₁ = { s with heap := h', toks := tk } ∧ IsRange h' r a b c t u v ∧ Fr h₀ L h' m ∧ News h₀ L h' news
theorem optNone {kvs : List (Str × Str)} {ll : Str} (h : lookupS kvs ll = none) : OptV (lookupS kvs ll) .none ∧ ∀ a, lookupS kvs ll = some a → a.length ≤ 1000 := ⟨by rw [h]; rfl, fun a ha => by rw [h] at ha; cases ha⟩
theorem optSome {kvs : List (Str × Str)} {ll a : Str} {t : Tok} (h : lookupS kvs ll = some a) (hl : a.length ≤ 1000) : OptV (lookupS kvs ll) (.str a t) ∧ ∀ a, lookupS kvs ll = some a → a.length ≤ 1000 := ⟨by rw [h]; exact ⟨t, rfl⟩, fun b hb => by rw [h] at hb; cases hb; exact hl⟩
theorem optCases {o : Option Str} {v : Value} (h : OptV o v) (hb : ∀ a, o = some a → a.length ≤ 1000) : (o = none ∧ v = .none) ∨ ∃ a t, o = some a ∧ v = .str a t ∧ a.length ≤ 1000 := by
  cases o with
  | none => exact .inl ⟨rfl, h⟩
  | some a => obtain ⟨t, rfl⟩ := h; exact .inr ⟨a, t, rfl, rfl, hb a rfl⟩
theorem lookup_empty {kvs : List (Str × Str)} {ll : Str} (h : kvs.isEmpty = true) : lookupS kvs ll = none := by
  cases kvs with
  | nil => rfl
  | cons a r => cases h
theorem hit0_yes {place : Nat} {x th : Str} (h : (Txt.lower x == th) = true) : hit0 place x th = [(place, 0, x)] := by unfold hit0; rw [if_pos h]
theorem hit0_no {place : Nat} {x th : Str} (h : (Txt.lower x == th) = false) : hit0 place x th = [] := by unfold hit0; rw [if_neg (by rw [h]; decide)]
theorem hit1_miss {kvs : List (Str × Str)} {sep : Str} {place : Nat} {x th : Str} (h : lookupS kvs (Txt.lower x) = none) : hit1 kvs sep place x th = [] := by unfold hit1; rw [h]
theorem hit1_empty {kvs : List (Str × Str)} {sep : Str} {place : Nat} {x th a : Str} (h : lookupS kvs (Txt.lower x) = some a) (h2 : (a.length : Int) = 0) : hit1 kvs sep place x th = [] := by
  have e : (a.length != 0) = false := by simp; omega
  unfold hit1; rw [h]; dsimp only; rw [e]; rfl
theorem hit1_no {kvs : List (Str × Str)} {sep : Str} {place : Nat} {x th a : Str} (h : lookupS kvs (Txt.lower x) = some a) (h2 : (Txt.lower (Txt.replace a (Str.ofString "_") sep) == th) = false) : hit1 kvs sep place x th = [] := by
  unfold hit1; rw [h]; dsimp only; rw [h2, Bool.and_false]; rfl
theorem hit1_yes {kvs : List (Str × Str)} {sep : Str} {place : Nat} {x th a : Str} (h : lookupS kvs (Txt.lower x) = some a) (h2 : (a.length : Int) ≠ 0) (h3 : (Txt.lower (Txt.replace a (Str.ofString "_") sep) == th) = true) :
    hit1 kvs sep place x th = [(place, 1, Txt.replace a (Str.ofString "_") sep)] := by
  have e : (a.length != 0) = true := by simp; omega
  unfold hit1; rw [h]; dsimp only; rw [e, h3]; rfl
theorem hit2_one {sep : Str} {place : Nat} {x th p0 : Str} {ps : List Str} {v : Value} {vs : List Value} (h : Txt.split x sep = p0 :: ps) (he : vs.length = ps.length) (h1 : ¬ (1 : Int) < ((v :: vs).length : Int)) : hit2 sep place x th = [] := by
  have h2 : ¬ 0 < ps.length := by rw [List.length_cons] at h1; omega
  unfold hit2; rw [h]; dsimp only; rw [decide_eq_false h2]; rfl
theorem hit2_no {sep : Str} {place : Nat} {x th p0 : Str} {ps : List Str} (h : Txt.split x sep = p0 :: ps) (h3 : (Txt.lower p0 == th) = false) : hit2 sep place x th = [] := by
  unfold hit2; rw [h]; dsimp only; rw [h3, Bool.and_false]; rfl
theorem hit2_yes {sep : Str} {place : Nat} {x th p0 : Str} {ps : List Str} {v : Value} {vs : List Value} (h : Txt.split x sep = p0 :: ps) (he : vs.length = ps.length) (h1 : (1 : Int) < ((v :: vs).length : Int)) (h3 : (Txt.lower p0 == th) = true) :
    hit2 sep place x th = [(place, 2, p0)] := by
  have h2 : 0 < ps.length := by rw [List.length_cons] at h1; omega
  unfold hit2; rw [h]; dsimp only; rw [decide_eq_true h2, h3]; rfl

theorem acc_step {small : List Str} {kvs : List (Str × Str)} {sep : Str} {i j : Nat} {x th : Str} {H : List Hit} (h : small[j]? = some th) :
    H ++ (small.take (j + 1)).flatMap (hitOne kvs sep i x) = H ++ (small.take j).flatMap (hitOne kvs sep i x) ++ hit0 i x th ++ hit1 kvs sep i x th ++ hit2 sep i x th := by
  rw [List.take_add_one, h]
  simp [hitOne, List.flatMap_append, List.append_assoc]
theorem acc_all {small : List Str} {kvs : List (Str × Str)} {sep : Str} {ps : List Str} {i n : Nat} {x : Str} (h : ps[i]? = some x) (hn : n = small.length) :
    hitsUp small kvs sep ps i ++ (small.take n).flatMap (hitOne kvs sep i x) = hitsUp small kvs sep ps (i + 1) := by
  subst hn
  rw [List.take_length]
  show _ = hitsUp small kvs sep ps i ++ _
  rw [h]
  rfl
theorem hitOne_len (kvs : List (Str × Str)) (sep : Str) (place : Nat) (x th : Str) : (hitOne kvs sep place x th).length ≤ 3 := by
  have h0 : (hit0 place x th).length ≤ 1 := by unfold hit0; split <;> simp
  have h1 : (hit1 kvs sep place x th).length ≤ 1 := by
    unfold hit1
    split
    · split <;> simp
    · simp
  have h2 : (hit2 sep place x th).length ≤ 1 := by
    unfold hit2
    split
    · split <;> simp
    · simp
  unfold hitOne
  simp only [List.length_append]
  omega
theorem flat_len {f : Str → List Hit} (hf : ∀ th, (f th).length ≤ 3) : ∀ l : List Str, (l.flatMap f).length ≤ 3 * l.length
  | [] => by simp
  | a :: r => by
    have h := flat_len hf r
    have h1 := hf a
    simp only [List.flatMap_cons, List.length_append, List.length_cons]
    omega
theorem hitsUp_len {small : List Str} {kvs : List (Str × Str)} {sep : Str} {ps : List Str} (h4 : small.length ≤ 4) : ∀ i, (hitsUp small kvs sep ps i).length ≤ 12 * i
  | 0 => by simp [hitsUp]
  | i + 1 => by
    have h := hitsUp_len (kvs := kvs) (sep := sep) (ps := ps) h4 i
    unfold hitsUp
    rw [List.length_append]
    split
    · rename_i x _
      have h2 := flat_len (hitOne_len kvs sep i x) small
      unfold hitsAt
      omega
    · simp; omega
theorem ledNe {h₀ h : Heap} {L hA : Addr} {rest tups : List (Addr × Obj)} {ex : List Addr} {its : Array Value} {n : Nat} (N : News h₀ L h ((hA, W.listOf its n) :: (rest ++ tups))) (hu : ∀ p ∈ tups, p.2.cls = .type "tuple" ∧ p.1 ∉ ex) (hr : ∀ p ∈ rest, p.1 ≠ hA) : ∀ p ∈ rest ++ tups, p.1 ≠ hA := by
  intro p hp
  rcases List.mem_append.mp hp with hq | hq
  · exact hr p hq
  · intro e
    have z := (N p (.tail _ hp)).1
    have z2 := (N _ (.head _)).1
    dsimp only at z2
    rw [e, z2] at z
    have := (hu p hq).1
    rw [← Option.some.inj z] at this
    simp at this
theorem HS.len {acc : List Hit} {hv : List Value} {tups : List (Addr × Obj)} (h : HitsV tups hv acc) : hv.length = acc.length := by
  unfold HitsV at h
  induction h with
  | nil => rfl
  | cons _ _ ih => simp [ih]

theorem HS.adv {h₀ h h' : Heap} {L hA : Addr} {rest : List (Addr × Obj)} {ex : List Addr} {acc : List Hit} {k : List Addr} (H : HS h₀ L hA rest ex acc h) (hk : KB (L :: k) h h') (h1 : ∀ p ∈ rest, p.1 ∉ k) (h2 : hA ∉ k) (h3 : ∀ b ∈ k, b ∈ ex) : HS h₀ L hA rest ex acc h' := by
  obtain ⟨hv, n, tups, N, c, d, e⟩ := H
  refine ⟨hv, n, tups, fun p hp => ?_, c, d, e⟩
  have z := N p hp
  refine ⟨hk _ _ ?_ z.1, z.2⟩
  intro q
  rcases List.mem_cons.mp q with q | q
  · exact z.2.1 q
  · rcases List.mem_cons.mp hp with rfl | hp
    · exact h2 q
    · rcases List.mem_append.mp hp with hp | hp
      · exact h1 p hp q
      · exact (d p hp).2 (h3 _ q)

theorem HS.news {h₀ h : Heap} {L hA : Addr} {rest : List (Addr × Obj)} {ex : List Addr} {acc : List Hit} (H : HS h₀ L hA rest ex acc h) : News h₀ L h rest := by
  obtain ⟨hv, n, tups, N, _⟩ := H
  exact fun p hp => N p (.tail _ (List.mem_append_left _ hp))

/-- a ledger's object goes, or comes -/
theorem HS.drop {h₀ h : Heap} {L hA : Addr} {rest rest' : List (Addr × Obj)} {ex ex' : List Addr} {acc : List Hit} (H : HS h₀ L hA rest ex acc h) (hs : ∀ p ∈ rest', p ∈ rest) (he : ∀ b ∈ ex', b ∈ ex) : HS h₀ L hA rest' ex' acc h := by
  obtain ⟨hv, n, tups, N, c, d, e⟩ := H
  refine ⟨hv, n, tups, fun p hp => ?_, c, fun p hp => ⟨(d p hp).1, fun q => (d p hp).2 (he _ q)⟩, fun p hp => e p (hs p hp)⟩
  rcases List.mem_cons.mp hp with rfl | hp
  · exact N _ (.head _)
  · rcases List.mem_append.mp hp with hp | hp
    · exact N p (.tail _ (List.mem_append_left _ (hs p hp)))
    · exact N p (.tail _ (List.mem_append_right _ hp))

/-- one hit more: a new tuple stands, the list has it at its end -/
theorem HS.add {h₀ h : Heap} {L hA t : Addr} {rest tups : List (Addr × Obj)} {ex : List Addr} {acc : List Hit} {hv : List Value} {n i k : Nat} {x : Str} {ia : Int} {ta tb tc : Tok} {kb : Int}
    (N : News h₀ L h ((hA, W.listOf (hv ++ [Value.ref t]).toArray n) :: (t, tupO [.int ia ta, .int kb tb, .str x tc]) :: (rest ++ tups)))
    (hh : HitsV tups hv acc) (ht : ∀ p ∈ tups, p.2.cls = .type "tuple" ∧ p.1 ∉ ex) (hr : ∀ p ∈ rest, p.1 ≠ hA) (hex : ∀ b ∈ ex, ∃ o, (b, o) ∈ rest ∧ o.cls ≠ .type "tuple") (ei : ia = (i : Int)) (ek : kb = (k : Int)) :
    HS h₀ L hA rest ex (acc ++ [(i, k, x)]) h := by
  subst ei ek
  refine ⟨hv ++ [.ref t], n, (t, tupO [.int (i : Int) ta, .int (k : Int) tb, .str x tc]) :: tups, fun p hp => ?_, ?_, ?_, hr⟩
  · rcases List.mem_cons.mp hp with rfl | hp
    · exact N _ (.head _)
    · rcases List.mem_append.mp hp with hp | hp
      · exact N p (.tail _ (.tail _ (List.mem_append_left _ hp)))
      · rcases List.mem_cons.mp hp with rfl | hp
        · exact N _ (.tail _ (.head _))
        · exact N p (.tail _ (.tail _ (List.mem_append_right _ hp)))
  · exact Paired.snoc (hh.mono fun p hp => .tail _ hp) ⟨t, ta, tb, tc, rfl, .head _⟩
  · intro p hp
    rcases List.mem_cons.mp hp with rfl | hp
    · refine ⟨rfl, fun q => ?_⟩
      obtain ⟨o, ho, hne⟩ := hex _ q
      have e1 := (N (t, o) (.tail _ (.tail _ (List.mem_append_left _ ho)))).1
      have e2 := (N _ (.tail _ (.head _))).1
      dsimp only at e1 e2
      rw [e2] at e1
      cases e1
      exact hne rfl
    · exact ht p hp

section
variable {prog : Program} {w : World} {A : Around} {s : Shared} {h₀ : Heap} {L D d : Addr} {m : Str → Option Value} {news : List (Addr × Obj)} {E : Value → Shared → Prop} {Q : Value → Shared → Prop}

theorem append_M {t hA : Addr} {oT : Obj} {R : List (Addr × Obj)} {hv : List Value} {n : Nat} (F : Fr h₀ L s.heap m) (N : News h₀ L s.heap ((t, oT) :: (hA, W.listOf hv.toArray n) :: R)) (hT : oT.cls = .type "tuple")
    (hne : ∀ p ∈ R, p.1 ≠ hA) (hsz : hv.length ≤ 1000)
    (h : ∀ h', Fr h₀ L h' m → News h₀ L h' ((hA, W.listOf (hv ++ [Value.ref t]).toArray (n + 1)) :: (t, oT) :: R) → Q .none { s with heap := h' }) :
    wpAny (model prog w) A (call (.builtin "list.append") [.ref hA, .ref t]) Q E s := by
  obtain ⟨z1, z2, z3⟩ := N (hA, W.listOf hv.toArray n) (.tail _ (.head _))
  dsimp only at z1 z2 z3
  have htA : t ≠ hA := by
    rintro rfl
    have e := (N (t, oT) (.head _)).1
    dsimp only at e
    rw [z1] at e; cases e
    simp at hT
  refine append_at (hsz := by simp [sizeLine_eq]; omega) z1 fun h' hs ho' => ?_
  have e : hv.toArray.push (Value.ref t) = (hv ++ [Value.ref t]).toArray := by simp
  rw [e] at ho'
  refine h h' ⟨F.ns.sameBut hs (fun e => z2 e.symm), fun b o e => (hs.2 b fun q => ?_).trans (F.keep b o e), F.above⟩ (fun p hp => ?_)
  · rw [q, z3] at e; cases e
  · rcases List.mem_cons.mp hp with rfl | hp
    · exact ⟨ho', z2, z3⟩
    · rcases List.mem_cons.mp hp with rfl | hp
      · have z := N (t, oT) (.head _)
        exact ⟨(hs.2 _ htA).trans z.1, z.2⟩
      · have z := N p (.tail _ (.tail _ hp))
        exact ⟨(hs.2 _ (hne p hp)).trans z.1, z.2⟩

def CutE (s : Shared) (h₀ : Heap) (L : Addr) (J : (Str → Option Value) → Heap → Prop) (f : Flow) (s' : Shared) : Prop :=
  f = .next ∧ ∃ h' tk m', s' = { s with heap := h', toks := tk } ∧ Fr h₀ L h' m' ∧ J m' h'
theorem CutE.intro {s : Shared} {J : (Str → Option Value) → Heap → Prop} {h' : Heap} {tk : Nat} {m' : Str → Option Value} (F : Fr h₀ L h' m') (j : J m' h') : CutE s h₀ L J .next { s with heap := h', toks := tk } := ⟨rfl, h', tk, m', rfl, F, j⟩
theorem cutM {M : Model} {t : Sem Flow} {J : (Str → Option Value) → Heap → Prop} {Q : Flow → Shared → Prop} (h : wpAny M A t (CutE s h₀ L J) NoE s) (k : ∀ h' tk m', @LE.le Nat _ s.toks tk → Fr h₀ L h' m' → J m' h' → Q .next { s with heap := h', toks := tk }) : wpAny M A t Q NoE s :=
  wpAny_mono (wpAny_toks h) (fun f s' hq => by
    obtain ⟨ht, rfl, h', tk, m', rfl, F, j⟩ := hq
    exact k h' tk m' ht F j) fun _ _ e => e.2

theorem rangeCut {M : Model} {a b c : Int} {t : Sem Value} (h : wpAny M A t (RangeE s h₀ L m news a b c) NoE s)
    (k : ∀ r t u v h' tk, @LE.le Nat _ s.toks tk → IsRange h' r a b c t u v → Fr h₀ L h' m → News h₀ L h' news → Q (.ref r) { s with heap := h', toks := tk }) : wpAny M A t Q NoE s :=
  wpAny_mono (wpAny_toks h) (fun xv s' hq => by
    obtain ⟨ht, r, t, u, v, h', tk, rfl, rfl, hR, F, N⟩ := hq
    exact k r t u v h' tk ht hR F N) fun _ _ e => e.2
theorem fitsLong {z : Int} (h1 : -1000000 ≤ z) (h2 : z ≤ 1000000) : Builtin.Range.rangeFitsLong z = true := by
  unfold Builtin.Range.rangeFitsLong
  simp only [Bool.and_eq_true, decide_eq_true_eq]
  omega
theorem small_of {a b c : Int} (ha : 0 ≤ a) (ha2 : a ≤ 100000) (hb : 0 ≤ b) (hb2 : b ≤ 100000) (hc : 0 < c) (hc2 : c ≤ 1000) (h0 : 0 ≤ Builtin.Range.rangeSize a b c) (h1 : Builtin.Range.rangeSize a b c ≤ 100000) : Builtin.Range.small a b c = true := by
  unfold Builtin.Range.small
  rw [fitsLong (by omega) (by omega), fitsLong (by omega) (by omega), fitsLong (by omega) (by omega), fitsLong (by omega) (by omega), if_pos hc, fitsLong (by omega) (by omega)]
  simp
theorem range_fits {n : Nat} (h : n ≤ 100000) : Builtin.Range.small 0 (n : Int) 1 = true ∧ Builtin.Range.rangeSize 0 (n : Int) 1 = (n : Int) := by
  have e : Builtin.Range.rangeSize 0 (n : Int) 1 = (n : Int) := by
    unfold Builtin.Range.rangeSize
    simp only [Int.ediv_one]
    split <;> (try split) <;> omega
  exact ⟨small_of (by omega) (by omega) (by omega) (by omega) (by omega) (by omega) (by omega) (by omega), e⟩
theorem item_base {value slice : PySem.Expr} {l : Addr} {vs : List Value} {i : Nat} {u : Tok} {v : Value} (F : Fr h₀ L s.heap m) (hl : h₀.IsList l vs.toArray) (hi : i ≤ 1000) (hx : vs[i]? = some v) (h : Q v s)
    (hs : subscripted slice false (.ref l) (.int (i : Int) u) = operate [.ref l, .int (i : Int) u] (getItem (.ref l) (.int (i : Int) u)) := by with_unfolding_all rfl) :
    wpAny (model prog w) A (subscriptTail value slice (.ref l) (.int (i : Int) u)) Q E s :=
  have hl' : s.heap.IsList l vs.toArray := hl.at fun o e => F.keep _ _ e
  tail_any hl'.typeIs slot_list_getitem.lookup (wpAny_getItem_list hl' (by omega) (by omega) (by simpa using hx) h) hs
theorem len_base {l : Addr} {vs : List Value} (F : Fr h₀ L s.heap m) (hl : h₀.IsList l vs.toArray) (hn : vs.length ≤ 100000)
    (h : Q (.int vs.length (s.toks + 1)) { s with toks := s.toks + 1 + 1 }) : wpAny (model prog w) A (call (.builtin "len") [.ref l]) Q E s := by
  refine Calls.call_len_list (hl.at fun o e => F.keep _ _ e) (by simp; omega) ?_
  have e : vs.toArray.size = vs.length := by simp
  rw [e]; exact h
end
end Mine

end

section
open PySem PySem.W PySem.Calls PyProof.Rows Builtin Builtin.Str
set_option Elab.async false
set_option maxRecDepth 100000
set_option linter.unusedVariables false
namespace Mine

def keyH (q : Hit) : Nat := 3 * q.1 + q.2.1

section
variable {prog : Program} {w : World} {A : Around} {s : Shared} {h₀ : Heap} {L D d : Addr} {m : Str → Option Value} {news : List (Addr × Obj)} {E : Value → Shared → Prop}

theorem keyLt_hits {t1 t2 : Addr} {q1 q2 : Hit} {a1 b1 c1 a2 b2 c2 : Tok} {Q : Bool → Shared → Prop}
    (h1 : s.heap.get? t1 = some (tupO [.int (q1.1 : Int) a1, .int (q1.2.1 : Int) b1, .str q1.2.2 c1])) (h2 : s.heap.get? t2 = some (tupO [.int (q2.1 : Int) a2, .int (q2.2.1 : Int) b2, .str q2.2.2 c2]))
    (k1 : q1.2.1 ≤ 2) (k2 : q2.2.1 ≤ 2) (hn : q1.1 = q2.1 → q1.2.1 = q2.2.1 → q1.2.2 = q2.2.2) (h : Q (decide (keyH q1 < keyH q2)) s) :
    wpAny (model prog w) A (keyLt' (tuples' true) (.ref t1) (.ref t2)) Q E s := by
  unfold keyH at h
  refine kat_lt h1 rfl h2 rfl ?_
  show KatLex prog w A true _ Q [((Value.int (q1.1 : Int) a1), (Value.int (q2.1 : Int) a2)), ((Value.int (q1.2.1 : Int) b1), (Value.int (q2.2.1 : Int) b2)), ((Value.str q1.2.2 c1), (Value.str q2.2.2 c2))] 0 s
  refine kat_cons (wpAny_eqBool_int ?_)
  by_cases e1 : q1.1 = q2.1
  · have x1 : ((q1.1 : Int) == (q2.1 : Int)) = true := by simp [e1]
    rw [x1]
    refine kat_yes (kat_cons (wpAny_eqBool_int ?_))
    by_cases e2 : q1.2.1 = q2.2.1
    · have x2 : ((q1.2.1 : Int) == (q2.2.1 : Int)) = true := by simp [e2]
      rw [x2]
      refine kat_yes (kat_cons (eqBool_str ?_))
      have x3 : (q1.2.2 == q2.2.2) = true := by rw [hn e1 e2]; exact beq_self_eq_true _
      rw [x3]
      refine kat_yes (kat_nil ?_)
      have x4 : decide (3 * q1.1 + q1.2.1 < 3 * q2.1 + q2.2.1) = false := by simp; omega
      rw [x4] at h
      exact h
    · have x2 : ((q1.2.1 : Int) == (q2.2.1 : Int)) = false := by
        rw [beq_eq_false_iff_ne]; omega
      rw [x2]
      refine kat_no (kat_one _ _ (lt_int ?_))
      have x4 : decide (3 * q1.1 + q1.2.1 < 3 * q2.1 + q2.2.1) = decide ((q1.2.1 : Int) < (q2.2.1 : Int)) := by
        rw [Bool.eq_iff_iff]; simp only [decide_eq_true_eq]; omega
      rw [x4] at h
      exact h
  · have x1 : ((q1.1 : Int) == (q2.1 : Int)) = false := by
      rw [beq_eq_false_iff_ne]; omega
    rw [x1]
    refine kat_no (oneLt_int ?_)
    have x4 : decide (3 * q1.1 + q1.2.1 < 3 * q2.1 + q2.2.1) = decide ((q1.1 : Int) < (q2.1 : Int)) := by
      rw [Bool.eq_iff_iff]; simp only [decide_eq_true_eq]; omega
    rw [x4] at h
    exact h

theorem HitsV.at {tups : List (Addr × Obj)} {hv : List Value} {acc : List Hit} (h : HitsV tups hv acc) : ∀ i, i < acc.length → ∃ v, hv[i]? = some v ∧ IsHit tups v (acc.getD i (0, 0, Str.empty)) := by
  unfold HitsV at h
  induction h with
  | nil => intro i hi; simp at hi
  | @cons v q vs qs h1 _ ih =>
    intro i hi
    cases i with
    | zero => exact ⟨v, by simp, by simpa using h1⟩
    | succ i =>
      obtain ⟨u, a, b⟩ := ih i (by simpa using hi)
      exact ⟨u, by simpa using a, by simpa using b⟩

theorem katTups_hits {h : Heap} {hv : List Value} {acc : List Hit} (N : News h₀ L h news) (hh : HitsV news hv acc) : ∃ fs, KatTups h hv fs ∧ fs.length = acc.length ∧ ∀ v ∈ fs, ∃ i t, v = Value.int i t := by
  unfold HitsV at hh
  induction hh with
  | nil => exact ⟨[], trivial, rfl, fun v hv => nomatch hv⟩
  | @cons v q vs qs h1 _ ih =>
    obtain ⟨fs, a, b, c⟩ := ih
    obtain ⟨t, ta, tb, tc, rfl, hm⟩ := h1
    refine ⟨.int (q.1 : Int) ta :: fs, KatTups.cons (N _ hm).1 rfl rfl rfl a, by simp [b], fun v hv => ?_⟩
    rcases List.mem_cons.mp hv with rfl | hv
    · exact ⟨_, _, rfl⟩
    · exact c v hv

/-- sorted over the hits: its head is a least one -/
theorem sorted_two {hA : Addr} {hv : List Value} {acc : List Hit} {Q : Value → Shared → Prop} (F : Fr h₀ L s.heap m) (N : News h₀ L s.heap news) (hl : s.heap.IsList hA hv.toArray) (hh : HitsV news hv acc)
    (h2 : 2 ≤ acc.length) (h64 : acc.length < 64) (hk : ∀ q ∈ acc, q.2.1 ≤ 2) (hn : ∀ q ∈ acc, ∀ q' ∈ acc, q.1 = q'.1 → q.2.1 = q'.2.1 → q.2.2 = q'.2.2)
    (h : ∀ S h' tk o n out v0 q0, Fr h₀ L h' m → News h₀ L h' ((S, o) :: news) → o = W.listOf (List.toArray out) n → out[0]? = some v0 → IsHit news v0 q0 → q0 ∈ acc → (∀ q ∈ acc, keyH q0 ≤ keyH q) → Q (.ref S) { s with heap := h', toks := tk }) :
    wpAny (model prog w) A (call (.builtin "sorted") [.ref hA]) Q E s := by
  have hlen := HS.len hh
  refine kat_sorted F N hl (by omega) (by omega) fun S e1 h' F' N' hlt => ?_
  have N'' : News h₀ L h' news := fun p hp => N' p (.tail _ hp)
  obtain ⟨fs, ht, hfl, hfi⟩ := katTups_hits N'' hh
  refine kat_kind (T := .type "int") ht (by omega) (fun v hv => ?_) rfl ?_
  · obtain ⟨i, t, rfl⟩ := hfi v hv
    exact Looks.of_pure rfl
  have hmem : ∀ i, i < acc.length → acc.getD i (0, 0, Str.empty) ∈ acc := fun i hi => by
    have e : acc.getD i (0, 0, Str.empty) = acc[i] := by simp [hi]
    rw [e]; exact List.getElem_mem hi
  refine wp_of_within (N := hv.length) (lt := ltK fun i => keyH (acc.getD i (0, 0, Str.empty))) (Inv := fun s' => s' = { s with heap := h' }) (fun i j C s' hi hj hs hC => ?_) _ _ (within_sort (by omega)) rfl (fun s' hs => ?_)
  · subst hs
    obtain ⟨vi, gi, t1, a1, b1, c1, rfl, m1⟩ := hh.at i (by omega)
    obtain ⟨vj, gj, t2, a2, b2, c2, rfl, m2⟩ := hh.at j (by omega)
    unfold kas_ask
    have ei : hv.getD i Value.none = .ref t1 := by simp [List.getD, gi]
    have ej : hv.getD j Value.none = .ref t2 := by simp [List.getD, gj]
    rw [ei, ej]
    exact keyLt_hits (N'' _ m1).1 (N'' _ m2).1 (hk _ (hmem i (by omega))) (hk _ (hmem j (by omega))) (hn _ (hmem i (by omega)) _ (hmem j (by omega))) (hC _ rfl)
  · subst hs
    obtain ⟨x1, x2, x3⟩ := sort_min (key := fun i => keyH (acc.getD i (0, 0, Str.empty))) (N := hv.length) (by omega)
    generalize runT (ltK fun i => keyH (acc.getD i (0, 0, Str.empty))) (kas_sort hv.length) = p at x1 x2 x3
    refine KasFin.intro F' N' (UpdF.head fun q hq => Nat.ne_of_lt (hlt q hq)) fun h'' c F'' N3 => ?_
    have hp0 : p.toList[0]? = some (p.getD 0 0) := by
      have h0 : 0 < p.size := by omega
      simp [Array.getD, h0]
    obtain ⟨v0, g0, i0⟩ := hh.at (p.getD 0 0) (by omega)
    refine h S h'' _ _ c (p.toList.map fun i => hv.getD i Value.none) v0 (acc.getD (p.getD 0 0) (0, 0, Str.empty)) F'' N3 rfl ?_ i0 (hmem _ (by omega)) fun q hq => ?_
    · rw [List.getElem?_map, hp0]
      show some (hv.getD (p.getD 0 0) Value.none) = some v0
      rw [List.getD_eq_getElem?_getD, g0]
      rfl
    · obtain ⟨j, hj, rfl⟩ := List.mem_iff_getElem.mp hq
      have := x3 j (by omega)
      have e : acc.getD j (0, 0, Str.empty) = acc[j] := by simp [hj]
      rw [e] at this
      exact this

/-- sorted over a list of one: the list again -/
theorem sorted_single {hA : Addr} {v : Value} {Q : Value → Shared → Prop} (F : Fr h₀ L s.heap m) (N : News h₀ L s.heap news) (hl : s.heap.IsList hA [v].toArray)
    (h : ∀ S h' o n, Fr h₀ L h' m → News h₀ L h' ((S, o) :: news) → o = W.listOf (List.toArray [v]) n → Q (.ref S) { s with heap := h' }) :
    wpAny (model prog w) A (call (.builtin "sorted") [.ref hA]) Q E s := by
  refine Calls.call_function_entry kind_sorted plain_sorted entry_sorted (args_sorted1 _) ?_
  unfold Builtin.«sorted»
  refine wpAny_bind (m := checkCount "sorted" 1 1 _) (wpAny_pure ?_)
  refine wpAny_bind (collect_list hl ?_ (by simp [sizeLine_eq]))
  refine wpAny_bind (wpAny_newList ?_ (by simp [sizeLine_eq]))
  generalize hh1 : (s.heap.push (seqObj "list" #[] 0)).update s.heap.objs.size (Obj.mapSeq (· ++ [v].toArray)) = h1
  have hs1 : h1.objs.size = s.heap.objs.size + 1 := by rw [← hh1, Heap.size_update, size_push']
  have hS : (h1.push (seqObj "list" [v].toArray 0)).get? h1.objs.size = some (seqObj "list" [v].toArray 0) := Heap.get?_push_size _ rfl
  have keep1 : ∀ b o, s.heap.get? b = some o → (h1.push (seqObj "list" [v].toArray 0)).get? b = some o := fun b o q => by
    have hlt : b < s.heap.objs.size := Heap.lt_size q
    rw [Heap.get?_push_ne _ _ _ (by rw [hs1]; exact Nat.ne_of_lt (Nat.lt_succ_of_lt hlt)), ← hh1, Heap.get?_update_ne _ _ _ _ (Nat.ne_of_lt hlt), Heap.get?_push_ne _ _ _ (Nat.ne_of_lt hlt)]
    exact q
  generalize hh2 : h1.push (seqObj "list" [v].toArray 0) = h2 at hS keep1
  have hs2 : h2.objs.size = h1.objs.size + 1 := by rw [← hh2, size_push']
  show wpAny _ _ _ _ _ { s with heap := h2 }
  refine wpAny_bind (wpAny_holding (wpAny_call_entry slot_list_sort ⟨_, hS, rfl⟩ entry_list_sort ?_ (args_list_sort _)))
  rw [list_sort_plain]
  refine wpAny_bind (listItems_at hS rfl (wpAny_bind (listUpdate_at hS rfl ?_ (by simp [sizeLine_eq]) (Nat.zero_le _))))
  obtain ⟨e1, ho1⟩ : ∃ e1, (h2.update h1.objs.size (Obj.mapSeq fun _ => (#[] : Array Value))).get? h1.objs.size = some (seqObj "list" #[] e1) := ⟨_, get?_update_seq hS fun _ => #[]⟩
  refine wpAny_bind (seqEpoch_at ho1 rfl (wpAny_bind (wpAny_newTuple ?_ (by simp [sizeLine_eq]))))
  refine wpAny_bind (wpAny_newList ?_ (Nat.zero_le _))
  refine wpAny_holding ?_
  generalize hh3 : (((h2.update h1.objs.size (Obj.mapSeq fun _ => (#[] : Array Value))).push (seqObj "tuple" [v].toArray 0)).push (seqObj "list" #[] 0)) = h3
  have hS3 : h3.get? h1.objs.size = some (seqObj "list" #[] e1) := by
    rw [← hh3]; exact Heap.get?_push_of_some _ (Heap.get?_push_of_some _ ho1)
  have keep3 : ∀ b o, b ≠ h1.objs.size → h2.get? b = some o → h3.get? b = some o := fun b o hb q => by
    rw [← hh3]; exact Heap.get?_push_of_some _ (Heap.get?_push_of_some _ ((Heap.get?_update_ne _ _ _ _ hb).trans q))
  show wpAny _ _ _ _ _ { s with heap := h3 }
  dsimp only
  have hz : ([v].toArray).size < 2 := by simp
  rw [if_pos hz, if_pos hz]
  refine wpAny_bind (wpAny_pure ?_)
  rw [StateT.run_pure]
  refine wpAny_bind (wpAny_pure ?_)
  dsimp only
  have ea : (arrOf (SortSt.mk' general' ([v].toArray.zip [v].toArray) #[] 7 none)).map (·.2) = [v].toArray := by
    show ([v].toArray.zip [v].toArray).map (·.2) = [v].toArray
    simp
  rw [ea]
  refine wpAny_bind (seqEpoch_at hS3 rfl (wpAny_bind (listUpdate_at hS3 rfl ?_ (Nat.zero_le _) (by simp))))
  simp only [bne_self_eq_false, Bool.false_eq_true, if_false]
  refine wpAny_pure ⟨_, rfl, wpAny_pure ⟨_, rfl, ?_⟩⟩
  obtain ⟨c2, hc2⟩ := (⟨_, get?_update_seq hS3 fun _ => [v].toArray⟩ : ∃ c2, (h3.update h1.objs.size (Obj.mapSeq fun _ => [v].toArray)).get? h1.objs.size = some (seqObj "list" [v].toArray c2))
  have keep : ∀ b o, s.heap.get? b = some o → (h3.update h1.objs.size (Obj.mapSeq fun _ => [v].toArray)).get? b = some o := fun b o q => by
    have hb : b ≠ h1.objs.size := by rw [hs1]; exact Nat.ne_of_lt (Nat.lt_succ_of_lt (Heap.lt_size q))
    exact (Heap.get?_update_ne _ _ _ _ hb).trans (keep3 b o hb (keep1 b o q))
  show Q (.ref h1.objs.size) { s with heap := h3.update h1.objs.size (Obj.mapSeq fun _ => [v].toArray) }
  exact h _ _ _ c2 (F.kept keep) (N.kept_cons F keep (by rw [hs1]; exact Nat.le_succ _) hc2) rfl

/-- sorted over the hits, one or more: its head is a least one -/
theorem sorted_hits {hA : Addr} {hv : List Value} {acc : List Hit} {Q : Value → Shared → Prop} (F : Fr h₀ L s.heap m) (N : News h₀ L s.heap news) (hl : s.heap.IsList hA hv.toArray) (hh : HitsV news hv acc)
    (h1 : acc ≠ []) (h64 : acc.length < 64) (hk : ∀ q ∈ acc, q.2.1 ≤ 2) (hn : ∀ q ∈ acc, ∀ q' ∈ acc, q.1 = q'.1 → q.2.1 = q'.2.1 → q.2.2 = q'.2.2)
    (h : ∀ S h' tk n r v0 q0, Fr h₀ L h' m → News h₀ L h' ((S, W.listOf (List.toArray (v0 :: r)) n) :: news) → IsHit news v0 q0 → q0 ∈ acc → (∀ q ∈ acc, keyH q0 ≤ keyH q) → Q (.ref S) { s with heap := h', toks := tk }) :
    wpAny (model prog w) A (call (.builtin "sorted") [.ref hA]) Q E s := by
  by_cases h2 : 2 ≤ acc.length
  · refine sorted_two F N hl hh h2 h64 hk hn fun S h' tk o n out v0 q0 F' N' ho e0 i0 m0 l0 => ?_
    subst ho
    cases out with
    | nil => simp at e0
    | cons v r =>
      simp at e0; subst e0
      exact h S h' tk n r v q0 F' N' i0 m0 l0
  · match acc, h1, h2, hh with
    | [], h1, _, _ => exact absurd rfl h1
    | q :: q' :: r, _, h2, _ => exact absurd (by simp) h2
    | [q], _, _, hh =>
      unfold HitsV at hh
      cases hh with
      | cons i0 hr =>
        cases hr
        rename_i v
        refine sorted_single F N hl fun S h' o n F' N' ho => ?_
        subst ho
        exact h S h' s.toks n [] v q F' N' i0 (.head _) fun q' hq' => by rw [List.mem_singleton.mp hq']; exact Nat.le_refl _

/-- hits != [] -/
theorem ne_nil {hA e : Addr} {hv : List Value} {Q : Value → Shared → Prop} (hl : s.heap.IsList hA hv.toArray) (he : s.heap.IsList e ([] : List Value).toArray) (hu : A.units < cLine) (h : Q (.bool (!hv.isEmpty)) s) :
    wpAny (model prog w) A (compareOp .NotEq (.ref hA) (.ref e)) Q E s := by
  refine cmp_ofNotEq ?_
  cases hv with
  | nil =>
    have r := SeqAt.RcNeAt.lists (A := A) (e := fun _ => true) hl he rfl hu (fun j h1 _ => absurd h1 (by simp))
    exact r prog w E Q (by simpa using h)
  | cons v r =>
    have r := SeqAt.RcNeAt.lists_lengths (A := A) hl he (by simp) hu
    exact r prog w E Q (by simpa using h)
end
end Mine

end

section
open PySem PySem.W PySem.Calls PyProof.Rows Builtin Builtin.Str
set_option Elab.async false
set_option maxRecDepth 100000
set_option linter.unusedVariables false
namespace Mine

/-- the three ways in which a name meets -/
def wayF (small : List Str) (kvs : List (Str × Str)) (sep x : Str) : Nat → Option Str
  | 0 => if small.any (· == Txt.lower x) = true then some x else none
  | 1 => aliasHit small kvs sep (Txt.lower x)
  | 2 => partHit small sep x
  | _ => none

theorem neg_ways (small : List Str) (kvs : List (Str × Str)) (sep x : Str) : negOne small kvs sep x = match wayF small kvs sep x 0 with
    | some v => some v
    | none => match wayF small kvs sep x 1 with
      | some v => some v
      | none => wayF small kvs sep x 2 := by
  unfold negOne
  by_cases h : small.any (· == Txt.lower x) = true
  · rw [if_pos h]
    have e : wayF small kvs sep x 0 = some x := if_pos h
    rw [e]
  · rw [if_neg h]
    have e : wayF small kvs sep x 0 = none := if_neg h
    rw [e]
    rfl

theorem any_iff {small : List Str} {y : Str} : small.any (· == y) = true ↔ y ∈ small := by
  rw [List.any_eq_true]
  constructor
  · rintro ⟨z, hz, e⟩
    rw [beq_iff_eq] at e
    exact e ▸ hz
  · intro h
    exact ⟨y, h, beq_self_eq_true y⟩

theorem mem_hit0 {place : Nat} {x th : Str} {q : Hit} : q ∈ hit0 place x th ↔ q = (place, 0, x) ∧ th = Txt.lower x := by
  unfold hit0
  split
  · rename_i h
    rw [beq_iff_eq] at h
    simp [h]
  · rename_i h
    rw [beq_iff_eq] at h
    simp
    intro _ e
    exact h e.symm
theorem mem_hit1 {kvs : List (Str × Str)} {sep : Str} {place : Nat} {x th : Str} {q : Hit} : q ∈ hit1 kvs sep place x th ↔ ∃ a, lookupS kvs (Txt.lower x) = some a ∧ a.length ≠ 0 ∧ q = (place, 1, Txt.replace a (Str.ofString "_") sep) ∧ th = Txt.lower (Txt.replace a (Str.ofString "_") sep) := by
  unfold hit1
  cases e : lookupS kvs (Txt.lower x) with
  | none => simp
  | some a =>
    dsimp only
    constructor
    · intro h
      split at h
      · rename_i hc
        rw [Bool.and_eq_true, beq_iff_eq] at hc
        exact ⟨a, rfl, by simpa using hc.1, List.mem_singleton.mp h, hc.2.symm⟩
      · cases h
    · rintro ⟨b, hb, h1, rfl, h2⟩
      cases hb
      rw [if_pos (by rw [Bool.and_eq_true, beq_iff_eq]; exact ⟨by simpa using h1, h2.symm⟩)]
      exact .head _
theorem mem_hit2 {sep : Str} {place : Nat} {x th : Str} {q : Hit} : q ∈ hit2 sep place x th ↔ ∃ p0 ps, Txt.split x sep = p0 :: ps ∧ 0 < ps.length ∧ q = (place, 2, p0) ∧ th = Txt.lower p0 := by
  unfold hit2
  cases e : Txt.split x sep with
  | nil => simp
  | cons p0 ps =>
    dsimp only
    constructor
    · intro h
      split at h
      · rename_i hc
        rw [Bool.and_eq_true, beq_iff_eq, decide_eq_true_eq] at hc
        exact ⟨p0, ps, rfl, hc.1, List.mem_singleton.mp h, hc.2.symm⟩
      · cases h
    · rintro ⟨b, bs, hb, h1, rfl, h2⟩
      injection hb with e1 e2
      subst e1 e2
      rw [if_pos (by rw [Bool.and_eq_true, beq_iff_eq, decide_eq_true_eq]; exact ⟨h1, h2.symm⟩)]
      exact .head _

theorem alias_iff {small : List Str} {kvs : List (Str × Str)} {sep ll n : Str} : aliasHit small kvs sep ll = some n ↔ ∃ a, lookupS kvs ll = some a ∧ a.length ≠ 0 ∧ n = Txt.replace a (Str.ofString "_") sep ∧ Txt.lower (Txt.replace a (Str.ofString "_") sep) ∈ small := by
  unfold aliasHit
  cases e : lookupS kvs ll with
  | none => simp
  | some a =>
    dsimp only
    constructor
    · intro h
      split at h
      · rename_i hc
        rw [Bool.and_eq_true, any_iff] at hc
        exact ⟨a, rfl, by simpa using hc.1, (Option.some.inj h).symm, hc.2⟩
      · cases h
    · rintro ⟨b, hb, h1, rfl, h2⟩
      cases hb
      rw [if_pos (by rw [Bool.and_eq_true, any_iff]; exact ⟨by simpa using h1, h2⟩)]
theorem part_iff {small : List Str} {sep x n : Str} : partHit small sep x = some n ↔ ∃ p0 ps, Txt.split x sep = p0 :: ps ∧ 0 < ps.length ∧ n = p0 ∧ Txt.lower p0 ∈ small := by
  unfold partHit
  cases e : Txt.split x sep with
  | nil => simp
  | cons p0 ps =>
    dsimp only
    constructor
    · intro h
      split at h
      · rename_i hc
        rw [Bool.and_eq_true, any_iff, decide_eq_true_eq] at hc
        exact ⟨p0, ps, rfl, hc.1, (Option.some.inj h).symm, hc.2⟩
      · cases h
    · rintro ⟨b, bs, hb, h1, rfl, h2⟩
      injection hb with e1 e2
      subst e1 e2
      rw [if_pos (by rw [Bool.and_eq_true, any_iff, decide_eq_true_eq]; exact ⟨h1, h2⟩)]

theorem mem_hitsAt {small : List Str} {kvs : List (Str × Str)} {sep : Str} {place : Nat} {x : Str} {q : Hit} : q ∈ hitsAt small kvs sep place x ↔ q.1 = place ∧ wayF small kvs sep x q.2.1 = some q.2.2 := by
  unfold hitsAt hitOne
  rw [List.mem_flatMap]
  constructor
  · rintro ⟨th, hth, hq⟩
    rw [List.mem_append, List.mem_append] at hq
    rcases hq with (hq | hq) | hq
    · obtain ⟨rfl, rfl⟩ := mem_hit0.mp hq
      exact ⟨rfl, if_pos (any_iff.mpr hth)⟩
    · obtain ⟨a, h1, h2, rfl, rfl⟩ := mem_hit1.mp hq
      exact ⟨rfl, alias_iff.mpr ⟨a, h1, h2, rfl, hth⟩⟩
    · obtain ⟨p0, ps, h1, h2, rfl, rfl⟩ := mem_hit2.mp hq
      exact ⟨rfl, part_iff.mpr ⟨p0, ps, h1, h2, rfl, hth⟩⟩
  · obtain ⟨p, k, n⟩ := q
    rintro ⟨rfl, hw⟩
    dsimp only at hw
    match k, hw with
    | 0, hw =>
      have hw' : (if small.any (· == Txt.lower x) = true then some x else none) = some n := hw
      split at hw'
      · rename_i hc
        cases hw'
        exact ⟨_, any_iff.mp hc, List.mem_append_left _ (List.mem_append_left _ (mem_hit0.mpr ⟨rfl, rfl⟩))⟩
      · cases hw'
    | 1, hw =>
      obtain ⟨a, h1, h2, rfl, h3⟩ := alias_iff.mp hw
      exact ⟨_, h3, List.mem_append_left _ (List.mem_append_right _ (mem_hit1.mpr ⟨a, h1, h2, rfl, rfl⟩))⟩
    | 2, hw =>
      obtain ⟨p0, ps, h1, h2, rfl, h3⟩ := part_iff.mp hw
      exact ⟨_, h3, List.mem_append_right _ (mem_hit2.mpr ⟨_, ps, h1, h2, rfl, rfl⟩)⟩
    | k + 3, hw => cases hw

theorem mem_hitsUp {small : List Str} {kvs : List (Str × Str)} {sep : Str} {ps : List Str} {q : Hit} : ∀ i, q ∈ hitsUp small kvs sep ps i ↔ q.1 < i ∧ ∃ x, ps[q.1]? = some x ∧ wayF small kvs sep x q.2.1 = some q.2.2
  | 0 => by simp [hitsUp]
  | i + 1 => by
    unfold hitsUp
    rw [List.mem_append, mem_hitsUp i]
    constructor
    · rintro (⟨h1, h2⟩ | h)
      · exact ⟨by omega, h2⟩
      · cases e : ps[i]? with
        | none => rw [e] at h; cases h
        | some x =>
          rw [e] at h
          obtain ⟨h1, h2⟩ := mem_hitsAt.mp h
          exact ⟨by omega, x, by rw [h1]; exact e, h2⟩
    · rintro ⟨h1, x, h2, h3⟩
      by_cases hi : q.1 < i
      · exact .inl ⟨hi, x, h2, h3⟩
      · have e : q.1 = i := by omega
        right
        rw [e] at h2
        rw [h2]
        exact mem_hitsAt.mpr ⟨e, h3⟩

theorem way_le {small : List Str} {kvs : List (Str × Str)} {sep x n : Str} {k : Nat} (h : wayF small kvs sep x k = some n) : k ≤ 2 := by
  match k, h with
  | 0, _ => omega
  | 1, _ => omega
  | 2, _ => omega
  | k + 3, h => cases h

theorem neg_none_iff {small : List Str} {kvs : List (Str × Str)} {sep x : Str} (h : ∀ k, wayF small kvs sep x k = none) : negOne small kvs sep x = none := by
  rw [neg_ways, h 0, h 1, h 2]
theorem neg_some {small : List Str} {kvs : List (Str × Str)} {sep x n : Str} {k : Nat} (h : wayF small kvs sep x k = some n) (hl : ∀ j, j < k → wayF small kvs sep x j = none) : negOne small kvs sep x = some n := by
  rw [neg_ways]
  match k, h, hl with
  | 0, h, _ => rw [h]
  | 1, h, hl => rw [hl 0 (by omega), h]
  | 2, h, hl => rw [hl 0 (by omega), hl 1 (by omega), h]
  | k + 3, h, _ => cases h

/-- the law's heart: the least hit is the first name's first way -/
theorem hits_empty {os : List (Option Str)} {kvs : List (Str × Str)} {sep : Str} {ps : List Str} (h : hitsUp (smallF os) kvs sep ps ps.length = []) : negF os kvs sep ps = none := by
  unfold negF
  refine findSome_none fun j y hj hy => neg_none_iff fun k => ?_
  cases e : wayF (smallF os) kvs sep y k with
  | none => rfl
  | some n =>
    have : (j, k, n) ∈ hitsUp (smallF os) kvs sep ps ps.length := (mem_hitsUp _).mpr ⟨hj, y, hy, e⟩
    rw [h] at this
    cases this
theorem hits_least {os : List (Option Str)} {kvs : List (Str × Str)} {sep : Str} {ps : List Str} {q : Hit} (h : q ∈ hitsUp (smallF os) kvs sep ps ps.length) (hl : ∀ q' ∈ hitsUp (smallF os) kvs sep ps ps.length, keyH q ≤ keyH q') :
    negF os kvs sep ps = some q.2.2 := by
  obtain ⟨h1, x, hx, hw⟩ := (mem_hitsUp _).mp h
  unfold keyH at hl
  have hk := way_le hw
  unfold negF
  refine findSome_at hx (fun j y hj hy => neg_none_iff fun k => ?_) (neg_some hw fun j hj => ?_)
  · cases e : wayF (smallF os) kvs sep y k with
    | none => rfl
    | some n =>
      have := hl (j, k, n) ((mem_hitsUp _).mpr ⟨by omega, y, hy, e⟩)
      have := way_le e
      dsimp only at *
      omega
  · cases e : wayF (smallF os) kvs sep x j with
    | none => rfl
    | some n =>
      have := hl (q.1, j, n) ((mem_hitsUp _).mpr ⟨h1, x, hx, e⟩)
      dsimp only at *
      omega
theorem hits_kind {small : List Str} {kvs : List (Str × Str)} {sep : Str} {ps : List Str} {n : Nat} : ∀ q ∈ hitsUp small kvs sep ps n, q.2.1 ≤ 2 := fun q hq => by
  obtain ⟨_, x, _, hw⟩ := (mem_hitsUp _).mp hq
  exact way_le hw
theorem hits_same {small : List Str} {kvs : List (Str × Str)} {sep : Str} {ps : List Str} {n : Nat} : ∀ q ∈ hitsUp small kvs sep ps n, ∀ q' ∈ hitsUp small kvs sep ps n, q.1 = q'.1 → q.2.1 = q'.2.1 → q.2.2 = q'.2.2 := fun q hq q' hq' e1 e2 => by
  obtain ⟨_, x, hx, hw⟩ := (mem_hitsUp _).mp hq
  obtain ⟨_, y, hy, hv⟩ := (mem_hitsUp _).mp hq'
  rw [e1, hy] at hx
  cases hx
  rw [e2, hv] at hw
  exact (Option.some.inj hw).symm
end Mine

end

section
open PySem PySem.W PySem.Calls PyProof.Rows
set_option Elab.async false
set_option maxRecDepth 100000
set_option maxHeartbeats 8000000
namespace Mine
theorem fillK5 : PySem.Challenge.rw_ez5001_01.Holds → hd.heap_39 = hd.heap_39 := by
  k_fill
  intro _; rfl

local macro_rules | `(tactic| walk_at "execs nil") => `(tactic| (with_reducible refine wpAny_execs_nil ?_))
local macro_rules | `(tactic| walk_at "execs cons") => `(tactic| (with_reducible refine wpAny_execs_cons ?_))
local macro_rules | `(tactic| k_tabat) => `(tactic| exact TabAt.keep (by with_reducible assumption) (Fr.keep (by k_asm)))
local macro_rules | `(tactic| walk_at "call builtin:dict.get") => `(tactic| (k_dflt (refine' get_tab ?T ?F ?b ?_ ?_; (case T => assumption); (case F => k_asm); (case b => assumption); all_goals intros)))
local macro_rules | `(tactic| walk_at "call builtin:str.replace") => `(tactic| (k_dflt (refine' repl_line (noneBooked_of ?X ?F ?l) ?v ?u ?x ?z ?_; (case X => assumption); (case F => k_asm); (case l => k_is); (case v => assumption); (case u => ((try dsimp only); omega)); (case x => assumption); (case z => assumption); intro t' k' hl' ht'; (try dsimp only at ht'))))
local macro_rules | `(tactic| walk_at "call builtin:str.split") => `(tactic| (k_dflt (refine' split_line ?F ?N ?y ?x ?_; (case F => k_asm); (case N => k_asm); (case y => assumption); (case x => assumption); intro D' p0' t0' ps' vs' h' k' e0' e1' e2' e3' F' N' lt')))
local macro_rules | `(tactic| walk_at "call builtin:len") => `(tactic| (k_dflt (refine' len_led ?N ?m ?c ?d ?l ?_; (case N => k_asm); (case m => k_mem); (case c => rfl); (case d => exact ⟨_, rfl⟩); (case l => (simp only [List.length_cons]; omega)))))
local macro_rules | `(tactic| walk_at "call builtin:len") => `(tactic| (k_dflt (refine' len_base ?F ?l ?n ?_; (case F => k_asm); (case l => assumption); (case n => assumption))))
local macro_rules | `(tactic| walk_at "subscriptTail") => `(tactic| ((with_reducible show wpAny _ _ (subscriptTail _ _ (Value.ref _) (Value.int 0 _)) _ _ _); k_dflt (refine' item0_led ?N ?m ?c ?d ?x ?_; (case N => k_asm); (case m => k_mem); (case c => rfl); (case d => exact ⟨_, rfl⟩); (case x => rfl))))
local macro_rules | `(tactic| walk_at "subscriptTail") => `(tactic| (k_dflt (refine' item_base ?F ?l ?i ?x ?_; (case F => k_asm); (case l => assumption); (case i => assumption); (case x => assumption))))
local macro_rules | `(tactic| walk_at "truthy ref") => `(tactic| (k_dflt (refine' truthy_led ?T ?F ?l ?_; (case T => assumption); (case F => k_asm); (case l => assumption))))
local macro_rules | `(tactic| walk_at "call builtin:list.append") => `(tactic| (k_dflt (refine' append_M ?F ?N ?t ?n ?z ?_; (case F => k_asm); (case N => k_asm); (case t => rfl); (case n => assumption); (case z => assumption); intro h' F' N')))
theorem item2_led {prog : Program} {w : World} {A : Around} {s : Shared} {h₀ : Heap} {L D t : Addr} {o : Obj} {news : List (Addr × Obj)} {E : Value → Shared → Prop} {Q : Value → Shared → Prop} {x y v : Value} {value slice : PySem.Expr} {u : Tok}
    (N : News h₀ L s.heap ((D, o) :: news)) (hm : (t, tupO [x, y, v]) ∈ news) (h : Q v s)
    (hs : subscripted slice false (.ref t) (.int 2 u) = operate [.ref t, .int 2 u] (getItem (.ref t) (.int 2 u)) := by with_unfolding_all rfl) :
    wpAny (model prog w) A (subscriptTail value slice (.ref t) (.int 2 u)) Q E s :=
  item_tupleT ⟨_, (N _ (.tail _ hm)).1, rfl, _, rfl⟩ (by decide) (by decide) (j := 2) rfl rfl h hs
local macro_rules | `(tactic| walk_at "subscriptTail") => `(tactic| ((with_reducible show wpAny _ _ (subscriptTail _ _ (Value.ref _) (Value.int 2 _)) _ _ _); k_dflt (refine' item2_led ?N ?m ?_; (case N => k_asm); (case m => assumption))))
local macro_rules | `(tactic| walk_at "compareOp NotEq ref ref") => `(tactic| (k_dflt (refine' ne_nil ?l ?e ?u ?_; (case l => exact News.isList (by k_asm) (by k_mem)); (case e => exact News.isList (by k_asm) (by k_mem)); (case u => (simp only [Around.deeper_units]; omega)))))
local macro_rules | `(tactic| walk_at "call builtin:sorted") => `(tactic| (k_dflt (refine' sorted_hits ?F ?N ?l ?h ?n ?z hits_kind hits_same ?_; (case F => k_asm); (case N => k_asm); (case l => exact News.isList (by k_asm) (by k_mem)); (case h => exact HitsV.mono (by assumption) fun p hp => .tail _ (.tail _ (.tail _ hp))); (case n => assumption); (case z => assumption); intro S' h' tk' n' r' v0' q0' F' N' i0' m0' l0'; obtain ⟨t', a', b', c', e', hm'⟩ := i0'; subst e')))

section
variable {prog : Program} {w : World} {A : Around} {s : Shared} {loose : List Str} {mg mb : Str → Option Value}

theorem due_call {tv : Value} {lp la : Addr} {pvs avs : List Value} {ps : List Str} {os : List (Option Str)} {kvs : List (Str × Str)} {sep : Str} {ts : Tok}
    (X : (hd.heap_39 w.params).In s.heap) (T : TopRead hd.view_39 loose mg mb s.heap) (hr : A.depth < recursionLimit) (hu : A.units + 50 < cLine) (hh : A.handled = none)
    (hpl : s.heap.IsList lp pvs.toArray) (hps : StrsAre pvs ps) (hpl2 : pvs.length ≤ 100000) (hpn : LeN ps.length 4) (han : avs.length ≤ 4)
    (hal : s.heap.IsList la avs.toArray) (has : OptsAre avs os) (htab : TableV prog w s.heap tv kvs)
    (hts : ts ≠ 0) (hsl : (sep.length == 0) = false) (hsl2 : sep.length ≤ 1000) (hkb : ∀ p ∈ kvs, p.2.length ≤ 1000) (hkl : kvs.length ≤ 1000) (hbp : ∀ x ∈ ps, x.length ≤ 1000) (hbo : ∀ o ∈ os, Bd 1000 o) (htk : @LT.lt Nat _ ts s.toks) :
    codeAny (model prog w) A (.call (.ref 53) ⟨[.ref lp, .ref la, .str sep ts, tv], []⟩) (RetK s (fun v _ => OptV (negF os kvs sep ps) v)) s := by
  k_dflt (refine' enterM [(Str.ofString "preferred", .ref lp), (Str.ofString "available", .ref la), (Str.ofString "sign", .str sep ts), (Str.ofString "table", tv)] X T ?k6 ?k7 hr ?k9 ?kB ?_ ?c2 ?c3 ?c4 ?c5; (case k6 => k_is); (case k7 => k_is); (case k9 => first | exact BindsTo.of_eq (by rfl) | exact binds_K X rfl (by k_is) rfl (by rfl) (by rfl)); (case kB => exact locs rfl); (case c2 => exact rfl); (case c3 => exact rfl); (case c4 => exact rfl); (case c5 => decide))
  intro L h₁ tk hL ht F
  refine wpAny_execs_cons (comp_small hh rfl rfl rfl (by decide) (by decide) rfl (by decide) (by decide) (by decide) rfl (by rfl) (fun _ => rfl) (by rfl) F rfl (hal.at fun o e => F.keep la o e) has (by omega) hbo ?_)
  intro D h₂ tk₂ ys F₂ hDL hD hlD hys hk htk₂
  dsimp only at hk htk₂ ⊢
  replace F₂ : Fr s.heap L h₂ _ := F₂
  replace hDL : D ≠ L := hDL
  replace hk : KB [L] h₁ h₂ := hk
  obtain ⟨oD, hoD, hcD, hdD⟩ := hlD
  have hD0 : s.heap.get? D = none := by
    cases e : s.heap.get? D with
    | none => rfl
    | some o => rw [F.keep _ _ e] at hD; cases hD
  have N₂ : News s.heap L h₂ [(D, oD)] := fun p hp => by
    rw [List.mem_singleton.mp hp]; exact ⟨hoD, hDL, hD0⟩
  refine wpAny_execs_cons (cutM (h₀ := s.heap) (L := L) (J := fun m h => ∃ hA, (m = fun y => if y = Str.ofString "hits" then some (.ref hA) else if y = Str.ofString "small" then some (.ref D) else List.lookup y [(Str.ofString "preferred", Value.ref lp), (Str.ofString "available", Value.ref la), (Str.ofString "sign", Value.str sep ts), (Str.ofString "table", tv)].reverse) ∧
    News s.heap L h [(hA, W.listOf ([] : List Value).toArray 0), (D, oD)] ∧ D < hA) ?_ ?_)
  · k_steps
    all_goals exact CutE.intro (by assumption) ⟨_, rfl, by assumption, by assumption⟩
  rintro h₃ tk₃ m₃ ht₃ F₃ ⟨hA, rfl, N₃, hDA⟩
  dsimp only at ht₃
  refine wpAny_execs_cons (forRangeM (a := 0) (b := (pvs.length : Int)) (c := 1) (n := pvs.length) (h₀ := s.heap) hh rfl (by rfl) ?_ ?_ ?_)
  · exact (range_fits hpl2).1
  · exact (range_fits hpl2).2
  refine rangeCut (a := 0) (b := (pvs.length : Int)) (c := 1) (h₀ := s.heap) (L := L) (news := [(hA, W.listOf ([] : List Value).toArray 0), (D, oD)]) (m := fun y => if y = Str.ofString "hits" then some (.ref hA) else if y = Str.ofString "small" then some (.ref D) else List.lookup y [(Str.ofString "preferred", Value.ref lp), (Str.ofString "available", Value.ref la), (Str.ofString "sign", Value.str sep ts), (Str.ofString "table", tv)].reverse) ?_ ?_
  · k_steps
    all_goals exact ⟨_, _, _, _, _, _, rfl, rfl, by assumption, by assumption, by assumption⟩
  rintro r t' u' v' h₄ tk₄ ht₄ hR F₄ N₄
  dsimp only at ht₄
  have hLI : L < h₄.objs.size := F₄.ns.lt
  have hI0 : s.heap.get? h₄.objs.size = none := Heap.get?_none_of_le (Nat.le_trans hL (Nat.le_of_lt hLI))
  have hDI : D < h₄.objs.size := Heap.lt_size (N₄ _ (.tail _ (.head _))).1
  have hAI : hA < h₄.objs.size := Heap.lt_size (N₄ _ (.head _)).1
  refine ⟨r, t', u', v', _, fun i m h => HS s.heap L hA [(D, oD)] [h₄.objs.size] (hitsUp (smallF os) kvs sep ps i) h ∧ m (Str.ofString "hits") = some (.ref hA) ∧ m (Str.ofString "small") = some (.ref D) ∧ m (Str.ofString "preferred") = some (.ref lp) ∧ m (Str.ofString "sign") = some (.str sep ts) ∧ m (Str.ofString "table") = some tv,
    rfl, hR, F₄, ?_, ?_, ?_, ?_⟩
  · intro h' hk'
    refine ⟨⟨[], 0, [], fun p hp => ⟨hk' _ _ (N₄ p (by simpa using hp)).1, (N₄ p (by simpa using hp)).2⟩, .nil, (fun p hp => nomatch hp), fun p hp => ?_⟩, rfl, rfl, rfl, rfl, rfl⟩
    rw [List.mem_singleton.mp hp]; exact Nat.ne_of_lt hDA
  · rintro i m h h' ⟨a, b⟩ hk'
    refine ⟨a.adv (k := [h₄.objs.size]) hk' (fun p hp => ?_) ?_ (fun b hb => hb), b⟩
    · rw [List.mem_singleton.mp hp]; simp; exact Nat.ne_of_lt hDI
    · simp; exact Nat.ne_of_lt hAI
  · rintro i tp m₁ h₅ tk₅ hi ⟨H5, j1, j2, j3, j4, j5⟩ F₅ ⟨o1, ho1, hn1, hn2⟩ htk₅
    dsimp only at ho1 htk₅
    have hi4 : i ≤ 1000 := by
      have e : ps.length ≤ 4 := hpn
      rw [← StrsAre.len hps] at e
      omega
    obtain ⟨v, hv⟩ : ∃ v, pvs[i]? = some v := ⟨pvs[i], by simp [hi]⟩
    obtain ⟨x, hx, tx, rfl⟩ := StrsAre.at hps i v hv
    have hbx := hbp x (List.mem_of_getElem? hx)
    have ei : (0 : Int) + (i : Int) * 1 = (i : Int) := by omega
    rw [ei] at F₅
    replace F₅ := frKnown (x := Str.ofString "hits") (frKnown (x := Str.ofString "small") (frKnown (x := Str.ofString "preferred") (frKnown (x := Str.ofString "sign") (frKnown (x := Str.ofString "table") F₅ j5) j4) j3) j2) j1
    clear j1 j2 j3 j4 j5
    replace H5 := (H5.grow ho1 (Nat.ne_of_gt hLI) hI0 (Nat.ne_of_gt hAI))
    replace F₅ : Fr s.heap L h₅ (up (up (up (up (up (up m₁ (Str.ofString "place") (.int (i : Int) tp)) (Str.ofString "table") tv) (Str.ofString "sign") (.str sep ts)) (Str.ofString "preferred") (.ref lp)) (Str.ofString "small") (.ref D)) (Str.ofString "hits") (.ref hA)) := F₅
    obtain ⟨hv5, n5, tups5, N5, hh5, hu5, hr5⟩ := H5
    simp only [List.cons_append, List.nil_append] at N5
    -- name
    refine wpAny_execs_cons (cutM (h₀ := s.heap) (L := L) (J := fun m h => m = (up (up (up (up (up (up (up m₁ (Str.ofString "place") (.int (i : Int) tp)) (Str.ofString "table") tv) (Str.ofString "sign") (.str sep ts)) (Str.ofString "preferred") (.ref lp)) (Str.ofString "small") (.ref D)) (Str.ofString "hits") (.ref hA)) (Str.ofString "name") (.str x tx)) ∧ News s.heap L h ((hA, W.listOf hv5.toArray n5) :: (h₄.objs.size, o1) :: (D, oD) :: tups5)) ?_ ?_)
    · k_steps
      all_goals exact CutE.intro (by assumption) ⟨rfl, by assumption⟩
    rintro h₆ tk₆ m₆ ht₆ F₆ ⟨rfl, N₆⟩
    dsimp only at ht₆
    clear F₅ N5
    -- low
    refine wpAny_execs_cons (cutM (h₀ := s.heap) (L := L) (J := fun m h => ∃ tl, m = (up (up (up (up (up (up (up (up m₁ (Str.ofString "place") (.int (i : Int) tp)) (Str.ofString "table") tv) (Str.ofString "sign") (.str sep ts)) (Str.ofString "preferred") (.ref lp)) (Str.ofString "small") (.ref D)) (Str.ofString "hits") (.ref hA)) (Str.ofString "name") (.str x tx)) (Str.ofString "low") (.str (Txt.lower x) tl)) ∧ News s.heap L h ((hA, W.listOf hv5.toArray n5) :: (h₄.objs.size, o1) :: (D, oD) :: tups5)) ?_ ?_)
    · k_steps
      all_goals exact CutE.intro (by assumption) ⟨_, rfl, by assumption⟩
    rintro h₇ tk₇ m₇ ht₇ F₇ ⟨tl, rfl, N₇⟩
    dsimp only at ht₇
    clear F₆ N₆
    -- alias
    refine wpAny_execs_cons (cutM (h₀ := s.heap) (L := L) (J := fun m h => ∃ va, m = (up (up (up (up (up (up (up (up (up m₁ (Str.ofString "place") (.int (i : Int) tp)) (Str.ofString "table") tv) (Str.ofString "sign") (.str sep ts)) (Str.ofString "preferred") (.ref lp)) (Str.ofString "small") (.ref D)) (Str.ofString "hits") (.ref hA)) (Str.ofString "name") (.str x tx)) (Str.ofString "low") (.str (Txt.lower x) tl)) (Str.ofString "alias") va) ∧ News s.heap L h ((hA, W.listOf hv5.toArray n5) :: (h₄.objs.size, o1) :: (D, oD) :: tups5) ∧ OptV (lookupS kvs (Txt.lower x)) va ∧ ∀ a, lookupS kvs (Txt.lower x) = some a → a.length ≤ 1000) ?_ ?_)
    · rcases htab with ⟨rfl, rfl⟩ | ⟨d, rfl, hT⟩
      all_goals k_steps
      all_goals exact CutE.intro (by assumption) ⟨_, rfl, by assumption, by first | exact optNone (by assumption) | exact optNone (lookup_empty (by assumption)) | exact optSome (by assumption) (by assumption) | exact optNone rfl⟩
    rintro h₈ tk₈ m₈ ht₈ F₈ ⟨va, rfl, N₈, hva, hbva⟩
    dsimp only at ht₈
    clear F₇ N₇
    -- pieces
    refine wpAny_execs_cons (cutM (h₀ := s.heap) (L := L) (J := fun m h => ∃ pA p0 t0 ps' vs', m = (up (up (up (up (up (up (up (up (up (up m₁ (Str.ofString "place") (.int (i : Int) tp)) (Str.ofString "table") tv) (Str.ofString "sign") (.str sep ts)) (Str.ofString "preferred") (.ref lp)) (Str.ofString "small") (.ref D)) (Str.ofString "hits") (.ref hA)) (Str.ofString "name") (.str x tx)) (Str.ofString "low") (.str (Txt.lower x) tl)) (Str.ofString "alias") va) (Str.ofString "pieces") (.ref pA)) ∧ News s.heap L h ((pA, listO (.str p0 t0 :: vs')) :: ((hA, W.listOf hv5.toArray n5) :: (h₄.objs.size, o1) :: (D, oD) :: tups5)) ∧ Txt.split x sep = p0 :: ps' ∧ p0.length ≤ 1000 ∧ vs'.length = ps'.length ∧ ps'.length ≤ 2000 ∧ hA < pA ∧ D < pA ∧ h₄.objs.size < pA) ?_ ?_)
    · k_steps
      all_goals exact CutE.intro (by assumption) ⟨_, _, _, _, _, rfl, by assumption, by assumption, by assumption, by assumption, by assumption, (by assumption : ∀ p ∈ ((hA, W.listOf hv5.toArray n5) :: (h₄.objs.size, o1) :: (D, oD) :: tups5), p.1 < _) _ (.head _), (by assumption : ∀ p ∈ ((hA, W.listOf hv5.toArray n5) :: (h₄.objs.size, o1) :: (D, oD) :: tups5), p.1 < _) _ (.tail _ (.tail _ (.head _))), (by assumption : ∀ p ∈ ((hA, W.listOf hv5.toArray n5) :: (h₄.objs.size, o1) :: (D, oD) :: tups5), p.1 < _) _ (.tail _ (.head _))⟩
    rintro h₉ tk₉ m₉ ht₉ F₉ ⟨pA, p0, t0, ps', vs', rfl, N₉, hsp, hp0, hvl, hpl', hAp, hDp, hIp⟩
    dsimp only at ht₉
    clear F₈ N₈
    -- the inner loop
    have hLI2 : L < h₉.objs.size := F₉.ns.lt
    have hI20 : s.heap.get? h₉.objs.size = none := Heap.get?_none_of_le (Nat.le_trans hL (Nat.le_of_lt hLI2))
    have lt9 : ∀ p ∈ ((pA, listO (.str p0 t0 :: vs')) :: ((hA, W.listOf hv5.toArray n5) :: (h₄.objs.size, o1) :: (D, oD) :: tups5)), p.1 < h₉.objs.size := fun p hp => Heap.lt_size (N₉ p hp).1
    have H9 : HS s.heap L hA [(pA, listO (.str p0 t0 :: vs')), (h₄.objs.size, o1), (D, oD)] [h₉.objs.size, h₄.objs.size] (hitsUp (smallF os) kvs sep ps i) h₉ := by
      refine HS.more ⟨hv5, n5, tups5, fun p hp => N₉ p ?_, hh5, hu5, fun p hp => ?_⟩ (Nat.le_refl _)
      · simp only [List.cons_append, List.nil_append, List.mem_cons] at hp ⊢
        rcases hp with h | h | h | h | h
        · exact .inr (.inl h)
        · exact .inl h
        · exact .inr (.inr (.inl h))
        · exact .inr (.inr (.inr (.inl h)))
        · exact .inr (.inr (.inr (.inr h)))
      · rcases List.mem_cons.mp hp with rfl | hp
        · exact Nat.ne_of_gt hAp
        · exact hr5 p hp
    refine wpAny_execs_cons ?_
    refine forSeqM (vs := ys) (ax := D) hh rfl (by rfl) F₉ (.inl ⟨oD, (H9.news _ (.tail _ (.tail _ (.head _)))).1, hcD, hdD⟩) hDL (fun Q' hq => ld F₉ rfl hq)
      (fun j m h => (∀ z, z ≠ (Str.ofString "there") → m z = (up (up (up (up (up (up (up (up (up (up m₁ (Str.ofString "place") (.int (i : Int) tp)) (Str.ofString "table") tv) (Str.ofString "sign") (.str sep ts)) (Str.ofString "preferred") (.ref lp)) (Str.ofString "small") (.ref D)) (Str.ofString "hits") (.ref hA)) (Str.ofString "name") (.str x tx)) (Str.ofString "low") (.str (Txt.lower x) tl)) (Str.ofString "alias") va) (Str.ofString "pieces") (.ref pA)) z) ∧ HS s.heap L hA [(pA, listO (.str p0 t0 :: vs')), (h₄.objs.size, o1), (D, oD)] [h₉.objs.size, h₄.objs.size] (hitsUp (smallF os) kvs sep ps i ++ ((smallF os).take j).flatMap (hitOne kvs sep i x)) h) ?_ ?_ ?_ ?_
    · intro h' hk'
      refine ⟨fun _ _ => rfl, ?_⟩
      have e : hitsUp (smallF os) kvs sep ps i ++ ((smallF os).take 0).flatMap (hitOne kvs sep i x) = hitsUp (smallF os) kvs sep ps i := by simp
      rw [e]
      exact H9.mono hk'
    · rintro j m h h' ⟨a, b⟩ hk'
      refine ⟨a, b.adv (k := [h₉.objs.size]) hk' (fun p hp => ?_) ?_ (fun b hb => by rw [List.mem_singleton.mp hb]; exact .head _)⟩
      · have z : p.1 < h₉.objs.size := lt9 p (by
          simp only [List.mem_cons, List.not_mem_nil, or_false] at hp ⊢
          rcases hp with h | h | h
          · exact .inl h
          · exact .inr (.inr (.inl h))
          · exact .inr (.inr (.inr (.inl h))))
        simp; exact Nat.ne_of_lt z
      · have z := lt9 (hA, W.listOf hv5.toArray n5) (.tail _ (.head _))
        simp; exact Nat.ne_of_lt z
    · rintro j v m₂ ha tka hvj ⟨hmeq, HA⟩ Fa ⟨o2, ho2, hn21, hn22⟩ htka
      obtain ⟨th, hth, tt, rfl⟩ := StrsAre.at hys j v hvj
      dsimp only at ho2 htka
      replace Fa : Fr s.heap L ha (up (up (up (up (up (up (up (up (up (up (up m₁ (Str.ofString "place") (.int (i : Int) tp)) (Str.ofString "table") tv) (Str.ofString "sign") (.str sep ts)) (Str.ofString "preferred") (.ref lp)) (Str.ofString "small") (.ref D)) (Str.ofString "hits") (.ref hA)) (Str.ofString "name") (.str x tx)) (Str.ofString "low") (.str (Txt.lower x) tl)) (Str.ofString "alias") va) (Str.ofString "pieces") (.ref pA)) (Str.ofString "there") (.str th tt)) := frSame Fa hmeq
      have HB := HA.grow ho2 (Nat.ne_of_gt hLI2) hI20 (HA.ne ho2 hn22)
      have hexr : ∀ b ∈ [h₉.objs.size, h₄.objs.size], ∃ o, (b, o) ∈ [(h₉.objs.size, o2), (pA, listO (.str p0 t0 :: vs')), (h₄.objs.size, o1), (D, oD)] ∧ o.cls ≠ .type "tuple" := fun b hb => by
        rcases List.mem_cons.mp hb with rfl | hb
        · exact ⟨o2, .head _, hn21⟩
        · rw [List.mem_singleton.mp hb]; exact ⟨o1, .tail _ (.tail _ (.head _)), hn1⟩
      have hs4 : (smallF os).length ≤ 4 := small_len has han
      have hi4' : i < 4 := by
        have e : ps.length ≤ 4 := hpn
        rw [← StrsAre.len hps] at e
        omega
      have hl1 := hitsUp_len (small := smallF os) (kvs := kvs) (sep := sep) (ps := ps) hs4 i
      have hl2 : (((smallF os).take j).flatMap (hitOne kvs sep i x)).length ≤ 12 := by
        have := flat_len (hitOne_len kvs sep i x) ((smallF os).take j)
        have h2 : ((smallF os).take j).length ≤ 4 := by rw [List.length_take]; omega
        omega
      have hl3 : (hit0 i x th).length ≤ 1 := by unfold hit0; split <;> simp
      have hl4 : (hit1 kvs sep i x th).length ≤ 1 := by
        unfold hit1
        split
        · split <;> simp
        · simp
      -- the turn's test 0
      refine wpAny_execs_cons (cutM (h₀ := s.heap) (L := L) (J := fun m h => m = (up (up (up (up (up (up (up (up (up (up (up m₁ (Str.ofString "place") (.int (i : Int) tp)) (Str.ofString "table") tv) (Str.ofString "sign") (.str sep ts)) (Str.ofString "preferred") (.ref lp)) (Str.ofString "small") (.ref D)) (Str.ofString "hits") (.ref hA)) (Str.ofString "name") (.str x tx)) (Str.ofString "low") (.str (Txt.lower x) tl)) (Str.ofString "alias") va) (Str.ofString "pieces") (.ref pA)) (Str.ofString "there") (.str th tt)) ∧ HS s.heap L hA [(h₉.objs.size, o2), (pA, listO (.str p0 t0 :: vs')), (h₄.objs.size, o1), (D, oD)] [h₉.objs.size, h₄.objs.size] ((hitsUp (smallF os) kvs sep ps i ++ ((smallF os).take j).flatMap (hitOne kvs sep i x)) ++ hit0 i x th) h) ?_ ?_)
      · obtain ⟨hv6, n6, tups6, N6, c3, c4, c5⟩ := HB
        have hne6 := ledNe N6 c4 c5
        have hz6 : hv6.length ≤ 1000 := by rw [HS.len c3]; simp only [List.length_append]; omega
        simp only [List.cons_append, List.nil_append] at N6 hne6
        clear H9 HA
        skip
        all_goals k_steps
        all_goals first
          | exact CutE.intro (by assumption) ⟨rfl, by rw [hit0_yes (by assumption)]; exact HS.add (by assumption) c3 c4 c5 hexr rfl rfl⟩
          | exact CutE.intro (by assumption) ⟨rfl, by rw [(by exact hit0_no (by assumption) : hit0 i x th = []), List.append_nil]; exact ⟨hv6, n6, tups6, (by assumption), c3, c4, c5⟩⟩
      rintro hb tkb mb htb Fb ⟨rfl, HC⟩
      dsimp only at htb
      clear Fa
      -- the turn's test 1
      refine wpAny_execs_cons (cutM (h₀ := s.heap) (L := L) (J := fun m h => m = (up (up (up (up (up (up (up (up (up (up (up m₁ (Str.ofString "place") (.int (i : Int) tp)) (Str.ofString "table") tv) (Str.ofString "sign") (.str sep ts)) (Str.ofString "preferred") (.ref lp)) (Str.ofString "small") (.ref D)) (Str.ofString "hits") (.ref hA)) (Str.ofString "name") (.str x tx)) (Str.ofString "low") (.str (Txt.lower x) tl)) (Str.ofString "alias") va) (Str.ofString "pieces") (.ref pA)) (Str.ofString "there") (.str th tt)) ∧ HS s.heap L hA [(h₉.objs.size, o2), (pA, listO (.str p0 t0 :: vs')), (h₄.objs.size, o1), (D, oD)] [h₉.objs.size, h₄.objs.size] ((hitsUp (smallF os) kvs sep ps i ++ ((smallF os).take j).flatMap (hitOne kvs sep i x)) ++ hit0 i x th ++ hit1 kvs sep i x th) h) ?_ ?_)
      · obtain ⟨hv6, n6, tups6, N6, c3, c4, c5⟩ := HC
        have hne6 := ledNe N6 c4 c5
        have hz6 : hv6.length ≤ 1000 := by rw [HS.len c3]; simp only [List.length_append]; omega
        simp only [List.cons_append, List.nil_append] at N6 hne6
        clear H9 HA HB
        rcases optCases hva hbva with ⟨hao, rfl⟩ | ⟨a, ta, hao, rfl, hba⟩
        all_goals k_steps
        all_goals first
          | exact CutE.intro (by assumption) ⟨rfl, by rw [hit1_yes (by assumption) (by assumption) (by assumption)]; exact HS.add (by assumption) c3 c4 c5 hexr rfl rfl⟩
          | exact CutE.intro (by assumption) ⟨rfl, by rw [(by first | exact hit1_miss (by assumption) | exact hit1_empty (by assumption) (by assumption) | exact hit1_no (by assumption) (by assumption) : hit1 kvs sep i x th = []), List.append_nil]; exact ⟨hv6, n6, tups6, (by assumption), c3, c4, c5⟩⟩
      rintro hc tkc mc htc Fc ⟨rfl, HD⟩
      dsimp only at htc
      clear Fb
      -- the turn's test 2
      refine wpAny_execs_cons (cutM (h₀ := s.heap) (L := L) (J := fun m h => m = (up (up (up (up (up (up (up (up (up (up (up m₁ (Str.ofString "place") (.int (i : Int) tp)) (Str.ofString "table") tv) (Str.ofString "sign") (.str sep ts)) (Str.ofString "preferred") (.ref lp)) (Str.ofString "small") (.ref D)) (Str.ofString "hits") (.ref hA)) (Str.ofString "name") (.str x tx)) (Str.ofString "low") (.str (Txt.lower x) tl)) (Str.ofString "alias") va) (Str.ofString "pieces") (.ref pA)) (Str.ofString "there") (.str th tt)) ∧ HS s.heap L hA [(h₉.objs.size, o2), (pA, listO (.str p0 t0 :: vs')), (h₄.objs.size, o1), (D, oD)] [h₉.objs.size, h₄.objs.size] ((hitsUp (smallF os) kvs sep ps i ++ ((smallF os).take j).flatMap (hitOne kvs sep i x)) ++ hit0 i x th ++ hit1 kvs sep i x th ++ hit2 sep i x th) h) ?_ ?_)
      · obtain ⟨hv6, n6, tups6, N6, c3, c4, c5⟩ := HD
        have hne6 := ledNe N6 c4 c5
        have hz6 : hv6.length ≤ 1000 := by rw [HS.len c3]; simp only [List.length_append]; omega
        simp only [List.cons_append, List.nil_append] at N6 hne6
        clear H9 HA HB HC
        skip
        all_goals k_steps
        all_goals first
          | exact CutE.intro (by assumption) ⟨rfl, by rw [hit2_yes (by assumption) (by assumption) (by assumption) (by assumption)]; exact HS.add (by assumption) c3 c4 c5 hexr rfl rfl⟩
          | exact CutE.intro (by assumption) ⟨rfl, by rw [(by first | exact hit2_one (by assumption) (by assumption) (by assumption) | exact hit2_no (by assumption) (by assumption) : hit2 sep i x th = []), List.append_nil]; exact ⟨hv6, n6, tups6, (by assumption), c3, c4, c5⟩⟩
      rintro hd tkd md htd Fd ⟨rfl, HE⟩
      dsimp only at htd
      clear Fc
      refine wpAny_execs_nil (turnNext Fd ?_ ⟨fun z hz => by simp only [up, if_neg hz], ?_⟩)
      · intro b hb o e
        rcases List.mem_cons.mp hb with rfl | hb
        · rw [ho2] at e; cases e; exact (HE.news _ (.head _)).1
        · rw [List.mem_singleton.mp hb] at e ⊢
          rw [(HA.news _ (.tail _ (.tail _ (.head _)))).1] at e; cases e; exact (HE.news _ (.tail _ (.tail _ (.tail _ (.head _))))).1
      · rw [acc_step hth]
        exact HE.drop (fun p hp => .tail _ hp) fun b hb => hb
    · rintro h' tk' m' F' ⟨hmeq, HA⟩ htk'
      refine wpAny_execs_nil (turnNext F' ?_ ⟨?_, (hmeq _ (by decide)).trans rfl, (hmeq _ (by decide)).trans rfl, (hmeq _ (by decide)).trans rfl, (hmeq _ (by decide)).trans rfl, (hmeq _ (by decide)).trans rfl⟩)
      · intro b hb o e
        rw [List.mem_singleton.mp hb] at e ⊢
        rw [ho1] at e; cases e; exact (HA.news _ (.tail _ (.head _))).1
      · rw [acc_all hx (StrsAre.len hys)] at HA
        exact HA.drop (fun p hp => .tail _ (.tail _ hp)) fun b hb => .tail _ hb
  · rintro h' tk' m' F' ⟨H, j1, j2, j3, j4, j5⟩ htk'
    replace F' := frKnown (x := Str.ofString "hits") F' j1
    dsimp only at htk' ⊢
    obtain ⟨hvE, nE, tupsE, NE, hhE, huE, hrE⟩ := H
    simp only [List.cons_append, List.nil_append] at NE
    rw [StrsAre.len hps] at hhE
    have hs4 : (smallF os).length ≤ 4 := small_len has han
    have h64 : (hitsUp (smallF os) kvs sep ps ps.length).length < 64 := by
      have h1 := hitsUp_len (small := smallF os) (kvs := kvs) (sep := sep) (ps := ps) hs4 ps.length
      have e : ps.length ≤ 4 := hpn
      omega
    have hlenE := HS.len hhE
    by_cases hemp : hitsUp (smallF os) kvs sep ps ps.length = []
    · have hvE0 : hvE = [] := by
        rw [hemp] at hlenE
        exact List.length_eq_zero_iff.mp hlenE
      subst hvE0
      k_steps
      all_goals (try dsimp only)
      all_goals exact RetK.intro (by assumption) (by rw [hits_empty hemp]; rfl)
    · have hvE1 : hvE.isEmpty = false := by
        cases hvE with
        | nil => exact absurd (List.length_eq_zero_iff.mp hlenE.symm) hemp
        | cons _ _ => rfl
      k_steps
      all_goals (try dsimp only)
      all_goals exact RetK.intro (by assumption) (by rw [hits_least (by assumption) (by assumption)]; exact ⟨_, rfl⟩)
end
end Mine

end

section
open PySem PySem.W PySem.Calls PyProof.Rows
set_option Elab.async false
set_option maxRecDepth 100000
set_option maxHeartbeats 8000000
namespace Mine
theorem fillK6 : PySem.Challenge.rw_ez5001_01.Holds → hd.heap_39 = hd.heap_39 := by
  k_fill
  intro _; rfl

def tableK (k : Int) : List (Str × Str) :=
  if k = 0 then [(Str.ofString "de", Str.ofString "de_DE"), (Str.ofString "no", Str.ofString "nb_NO"), (Str.ofString "zh", Str.ofString "zh_Hans_CN"), (Str.ofString "pt_br", Str.ofString "pt_BR"), (Str.ofString "SR", Str.ofString "sr_RS"), (Str.ofString "xx", Str.ofString "")] else []
/-- what _law_table gives, with the object it made -/
def TabOK (prog : Program) (w : World) (k : Int) (tv : Value) (tabN : List (Addr × Obj)) : Prop :=
  (k = 1 ∧ tv = .none ∧ tabN = []) ∨ (k ≠ 1 ∧ ∃ (d : Addr) (o : Obj) (ks : List (Str × Value)), tv = .ref d ∧ tabN = [(d, o)] ∧ (d == sysModules) = false ∧ o.IsDictOf (PySem.strKind prog w) ks ∧ PyProof.V.FlatPairs PyData.str ks (dataOf (tableK k)))
def TabK (prog : Program) (w : World) (h₀ h : Heap) (k : Int) (tv : Value) : Prop := ∃ tabN, TabOK prog w k tv tabN ∧ ∀ p ∈ tabN, h.get? p.1 = some p.2 ∧ h₀.get? p.1 = none

local macro_rules | `(tactic| walk_at "execs nil") => `(tactic| (with_reducible refine wpAny_execs_nil ?_))
local macro_rules | `(tactic| walk_at "execs cons") => `(tactic| (with_reducible refine wpAny_execs_cons ?_))
local macro_rules | `(tactic| walk_at "eval Dict") => `(tactic| (k_dflt (refine' kdn_str ?q ?F ?N ?b ?a ?l ?e ?n ?_; (case q => rfl); (case F => k_asm); (case N => k_asm); (case b => exact TopRead.nolimit (by assumption)); (case a => rfl); (case l => rfl); (case e => exact List.cons_ne_nil _ _); (case n => exact Nat.le_of_ble_eq_true rfl)); intro d' h' o' F' N' l1 lo' hd'))

section
variable {prog : Program} {w : World} {A : Around} {s : Shared} {loose : List Str} {mg mb : Str → Option Value}

theorem str_at {M : Model} {x : Str} {n : Nat} {pos : Pos} {env : Env} {Q : Value → Shared → Prop} {E : Value → Shared → Prop} {h : Heap} {g : Array GenState} {d : Drawn} {t : Nat} {o : OsState} (hQ : Q (.str x t) ⟨h, g, d, t + 1, o⟩) : wpAny M A (eval (.Constant (.str x) n pos) env) Q E ⟨h, g, d, t, o⟩ := Constant_str hQ
end
local macro_rules | `(tactic| walk_at "eval Constant str") => `(tactic| (with_reducible refine str_at ?_))
section
variable {prog : Program} {w : World} {A : Around} {s : Shared} {loose : List Str} {mg mb : Str → Option Value}
theorem TabK.zero {h₀ h : Heap} {L : Nat} {k : Int} {d : Addr} {o : Obj} {ks} (hk : k = 0) (lo : (d == sysModules) = false) (N : News h₀ L h [(d, o)]) (hd : o.IsDictOf (PySem.strKind prog w) ks) (hf : PyProof.V.FlatPairs PyData.str ks (dataOf (tableK 0))) : TabK prog w h₀ h k (.ref d) :=
  ⟨[(d, o)], .inr ⟨by omega, d, o, ks, rfl, rfl, lo, hd, by subst hk; exact hf⟩, fun p hp => ⟨(N p hp).1, (N p hp).2.2⟩⟩
theorem TabK.else {h₀ h : Heap} {L : Nat} {k : Int} {d : Addr} {o : Obj} {ks} (hk : k ≠ 0) (hk1 : k ≠ 1) (lo : (d == sysModules) = false) (N : News h₀ L h [(d, o)]) (hd : o.IsDictOf (PySem.strKind prog w) ks) (hf : PyProof.V.FlatPairs PyData.str ks []) : TabK prog w h₀ h k (.ref d) :=
  ⟨[(d, o)], .inr ⟨hk1, d, o, ks, rfl, rfl, lo, hd, by unfold tableK; rw [if_neg hk]; exact hf⟩, fun p hp => ⟨(N p hp).1, (N p hp).2.2⟩⟩
theorem TabK.none {h₀ h : Heap} {k : Int} (hk : k = 1) : TabK prog w h₀ h k .none := ⟨[], .inl ⟨hk, rfl, rfl⟩, fun _ hp => nomatch hp⟩

theorem table_call {k : Int} {t : Tok} (X : (hd.heap_39 w.params).In s.heap) (T : TopRead hd.view_39 loose mg mb s.heap) (hr : A.depth < recursionLimit) :
    codeAny (model prog w) A (.call (.ref 34) ⟨[.int k t], []⟩) (RetK s (fun v h => TabK prog w s.heap h k v)) s := by
  k_dflt (refine' enterM [(Str.ofString "k", .int k t)] X T ?k6 ?k7 hr ?k9 ?kB ?_ ?c2 ?c3 ?c4 ?c5; (case k6 => k_is); (case k7 => k_is); (case k9 => exact BindsTo.of_eq (by rfl)); (case kB => exact locs rfl); (case c2 => exact rfl); (case c3 => exact rfl); (case c4 => exact rfl); (case c5 => decide))
  intro L h₁ tk hL ht F
  have N := News.nil (h₀ := s.heap) (L := L) (h := h₁)
  k_steps
  all_goals first
    | exact RetK.intro (by k_asm) (TabK.none (by assumption))
    | exact RetK.intro (by k_asm) (TabK.zero (by assumption) (by assumption) (by assumption) (by assumption) (by assumption))
    | exact RetK.intro (by k_asm) (TabK.else (by assumption) (by assumption) (by assumption) (by assumption) (by assumption) (by first | assumption | trivial | constructor))
end
end Mine

end

section
open PySem PySem.W PySem.Calls PyProof.Rows
set_option Elab.async false
set_option maxRecDepth 100000
set_option maxHeartbeats 8000000
namespace Mine
theorem fillK6b : PySem.Challenge.rw_ez5001_01.Holds → hd.heap_39 = hd.heap_39 := by
  k_fill
  intro _; rfl

/-- a text of the module's own rows: short, marked, its token old -/
def TopS (v : Value) : Prop := ∃ x t, v = .str x t ∧ x.length ≤ 12 ∧ t ≠ 0 ∧ @LT.lt Nat _ t 386 ∧ (x.length == 0) = false
def topSB : Value → Bool
  | .str x t => decide (x.length ≤ 12) && (t != 0) && decide (@LT.lt Nat _ t 386) && !(x.length == 0)
  | _ => false
theorem topS_of {l : List Value} (h : l.all topSB = true) : ∀ v ∈ l, TopS v := by
  intro v hv
  have := List.all_eq_true.mp h v hv
  cases v <;> simp only [topSB, Bool.false_eq_true, Bool.and_eq_true, decide_eq_true_eq, bne_iff_ne, Bool.not_eq_true'] at this
  exact ⟨_, _, rfl, this.1.1.1, this.1.1.2, this.1.2, this.2⟩
theorem fmod_lo (a : Int) {b : Int} (h : 0 < b) : 0 ≤ a.fmod b := by
  rw [Int.fmod_eq_emod_of_nonneg a (by omega)]; exact Int.emod_nonneg a (by omega)
theorem fmod_hi (a : Int) {b : Int} (h : 0 < b) : a.fmod b < b := by
  rw [Int.fmod_eq_emod_of_nonneg a (by omega)]; exact Int.emod_lt_of_pos a h
section
variable {prog : Program} {w : World} {A : Around} {s : Shared} {h₀ : Heap} {L : Addr} {m : Str → Option Value} {K : Frag} {E : Value → Shared → Prop} {Q : Value → Shared → Prop}
theorem tab_any {value slice : PySem.Expr} {T : Addr} {l : List Value} {dd : Option Addr} {sl : Array (Option Value)} {n : Nat} {k : Int} {u : Tok} (F : Fr h₀ L s.heap m) (X₀ : K.In h₀) (hl : K.lookup T = some ⟨.type "tuple", dd, .seq l.toArray n, sl⟩)
    (hP : l.all topSB = true) (h0 : 0 ≤ k) (h1 : k < (l.length : Int)) (hb : l.length ≤ 1000) (h : ∀ x t, x.length ≤ 12 → t ≠ 0 → @LT.lt Nat _ t 386 → (x.length == 0) = false → Q (.str x t) s)
    (hs : subscripted slice false (.ref T) (.int k u) = operate [.ref T, .int k u] (getItem (.ref T) (.int k u)) := by with_unfolding_all rfl) :
    wpAny (model prog w) A (subscriptTail value slice (.ref T) (.int k u)) Q E s := by
  have hlt : k.toNat < l.length := by omega
  obtain ⟨x, t, e, hx, ht, ht2, hne⟩ := topS_of hP l[k.toNat] (List.getElem_mem hlt)
  exact topTup_K F X₀ hl (by omega) (by omega) (seqIndex_of h0 h1) (List.getElem?_eq_getElem hlt) (by rw [e]; exact h x t hx ht ht2 hne) hs
end
local macro_rules | `(tactic| walk_at "execs nil") => `(tactic| (with_reducible refine wpAny_execs_nil ?_))
local macro_rules | `(tactic| walk_at "execs cons") => `(tactic| (with_reducible refine wpAny_execs_cons ?_))
local macro_rules | `(tactic| walk_at "binaryOp Mod int int") => `(tactic| ((with_reducible refine mod_int' ?b ?_); (case b => decide)))
local macro_rules | `(tactic| walk_at "binaryOp FloorDiv int int") => `(tactic| ((with_reducible refine floordiv_int ?b ?_ (Or.inl (PyProof.noPylong_of_log2 ?p))); (case b => decide); (case p => decide +kernel)))
local macro_rules | `(tactic| walk_at "subscriptTail") => `(tactic| (k_dflt (refine' tab_any ?F ?X ?l ?P ?a ?b ?c ?_; (case F => k_asm); (case X => assumption); (case l => k_is); (case P => with_unfolding_all rfl); (case a => exact fmod_lo _ (by decide)); (case b => exact fmod_hi _ (by decide)); (case c => decide); intro x' t' hx' h0' ht' hne')))

section
variable {prog : Program} {w : World} {A : Around} {s : Shared} {loose : List Str} {mg mb : Str → Option Value}

theorem stay1 {h₀ h₅ h' : Heap} {L I : Addr} {o1 : Obj} (ho1 : h₅.get? I = some o1) (N : News h₀ L h' [(I, o1)]) : ∀ b ∈ [I], ∀ o, h₅.get? b = some o → h'.get? b = some o := by
  intro b hb o e
  rw [List.mem_singleton.mp hb] at e ⊢
  rw [ho1] at e; cases e
  exact (N _ (.head _)).1

theorem name_call {a : Int} {ta : Tok} {sep : Str} {ts : Tok} (X : (hd.heap_39 w.params).In s.heap) (T : TopRead hd.view_39 loose mg mb s.heap) (hr : A.depth < recursionLimit) (hh : A.handled = none) (hsl : sep.length ≤ 12) :
    codeAny (model prog w) A (.call (.ref 41) ⟨[.int a ta, .str sep ts], []⟩) (RetK s (fun v _ => ∃ x t, v = .str x t ∧ x.length ≤ 100)) s := by
  k_dflt (refine' enterM [(Str.ofString "a", .int a ta), (Str.ofString "sign", .str sep ts)] X T ?k6 ?k7 hr ?k9 ?kB ?_ ?c2 ?c3 ?c4 ?c5; (case k6 => k_is); (case k7 => k_is); (case k9 => first | exact BindsTo.of_eq (by rfl) | exact binds_K X rfl (by k_is) rfl (by rfl) (by rfl)); (case kB => exact locs rfl); (case c2 => exact rfl); (case c3 => exact rfl); (case c4 => exact rfl); (case c5 => decide))
  intro L h₁ tk hL ht F
  refine wpAny_execs_cons (cutM (h₀ := s.heap) (L := L) (J := fun m h => ∃ x t, (m = up (fun y => List.lookup y [(Str.ofString "a", Value.int a ta), (Str.ofString "sign", .str sep ts)].reverse) (Str.ofString "told") (.str x t)) ∧ x.length ≤ 12) ?_ ?_)
  · k_steps
    all_goals exact CutE.intro (by assumption) ⟨_, _, rfl, by assumption⟩
  rintro h₂ tk₂ m₂ ht₂ F₂ ⟨x0, t0, rfl, hx0⟩
  refine wpAny_execs_cons (cutM (h₀ := s.heap) (L := L) (J := fun m h => ∃ b tb, (m = up (up (fun y => List.lookup y [(Str.ofString "a", Value.int a ta), (Str.ofString "sign", .str sep ts)].reverse) (Str.ofString "told") (.str x0 t0)) (Str.ofString "b") (.int b tb))) ?_ ?_)
  · k_steps
    all_goals exact CutE.intro (by assumption) ⟨_, _, rfl⟩
  rintro h₃ tk₃ m₃ ht₃ F₃ ⟨b, tb, rfl⟩
  dsimp only at ht₂ ht₃
  obtain ⟨n, hn⟩ : ∃ n : Nat, b.fmod 3 = (n : Int) := ⟨_, (Int.toNat_of_nonneg (fmod_lo b (by decide))).symm⟩
  have hn3 : n < 3 := by have := fmod_hi b (b := 3) (by decide); omega
  have N₃ := News.nil (h₀ := s.heap) (L := L) (h := h₃)
  refine wpAny_execs_cons (forRangeM (a := 0) (b := b.fmod 3) (c := 1) (n := n) (h₀ := s.heap) hh rfl (by rfl) ?_ ?_ ?_)
  · rw [hn]; exact (range_fits (by omega)).1
  · rw [hn]; exact (range_fits (by omega)).2
  refine rangeCut (a := 0) (b := b.fmod 3) (c := 1) (h₀ := s.heap) (L := L) (news := []) (m := up (up (fun y => List.lookup y [(Str.ofString "a", Value.int a ta), (Str.ofString "sign", .str sep ts)].reverse) (Str.ofString "told") (.str x0 t0)) (Str.ofString "b") (.int b tb)) ?_ ?_
  · k_steps
    all_goals exact ⟨_, _, _, _, _, _, rfl, rfl, by assumption, by assumption, by assumption⟩
  rintro r t' u' v' h₄ tk₄ ht₄ hR F₄ N₄
  dsimp only at ht₄
  refine ⟨r, t', u', v', _, fun i m h => (∃ x t, m (Str.ofString "told") = some (.str x t) ∧ x.length ≤ 12 + 24 * i) ∧ m (Str.ofString "b") = some (.int b tb) ∧ m (Str.ofString "sign") = some (.str sep ts), rfl, hR, F₄, ?_, ?_, ?_, ?_⟩
  · intro h' hk'
    exact ⟨⟨x0, t0, rfl, hx0⟩, rfl, rfl⟩
  · rintro i m h h' a hk'
    exact a
  · rintro i tp m₁ h₅ tk₅ hi ⟨⟨x, t, j1, hx⟩, j2, j3⟩ F₅ ⟨o1, ho1, hn1, hn2⟩ htk₅
    replace F₅ := frKnown (x := Str.ofString "told") (frKnown (x := Str.ofString "b") (frKnown (x := Str.ofString "sign") F₅ j3) j2) j1
    dsimp only at ho1 htk₅
    have hLI : L < h₄.objs.size := F₄.ns.lt
    have hI0 : s.heap.get? h₄.objs.size = none := Heap.get?_none_of_le (Nat.le_trans hL (Nat.le_of_lt hLI))
    have N₅ : News s.heap L h₅ [(h₄.objs.size, o1)] := fun p hp => by
      rw [List.mem_singleton.mp hp]; exact ⟨ho1, Nat.ne_of_gt hLI, hI0⟩
    have hx40 : x.length ≤ 60 := by omega
    have hi2 : i = 0 ∨ i = 1 := by omega
    rcases hi2 with rfl | rfl
    · have ei : (0 : Int) + ((0 : Nat) : Int) * 1 = 0 := by decide
      rw [ei] at F₅
      k_steps
      all_goals exact turnNext (by assumption) (stay1 ho1 (by assumption)) ⟨⟨_, _, rfl, by omega⟩, rfl, rfl⟩
    · have ei : (0 : Int) + ((1 : Nat) : Int) * 1 = 1 := by decide
      rw [ei] at F₅
      k_steps
      all_goals exact turnNext (by assumption) (stay1 ho1 (by assumption)) ⟨⟨_, _, rfl, by omega⟩, rfl, rfl⟩
  · intro h' tk m' F' J' ht'
    obtain ⟨⟨x, t, j1, hx⟩, j2, j3⟩ := J'
    replace F' := frKnown (x := Str.ofString "told") F' j1
    k_steps
    all_goals exact RetK.intro (by assumption) ⟨_, _, rfl, by omega⟩
end
end Mine

end

section
open PySem PySem.W PySem.Calls PyProof.Rows
set_option Elab.async false
set_option maxRecDepth 100000
set_option maxHeartbeats 8000000
namespace Mine
theorem fillK6c : PySem.Challenge.rw_ez5001_01.Holds → hd.heap_39 = hd.heap_39 := by
  k_fill
  intro _; rfl

section
variable {prog : Program} {w : World} {A : Around} {s : Shared} {h₀ : Heap} {L : Addr} {m : Str → Option Value} {K : Frag} {E : Value → Shared → Prop} {Q : Value → Shared → Prop}
theorem list_any {value slice : PySem.Expr} {l : Addr} {vs : List Value} {ps : List Str} {k : Int} {u : Tok} (F : Fr h₀ L s.heap m) (hl : h₀.IsList l vs.toArray) (hps : StrsAre vs ps)
    (hbp : ∀ x ∈ ps, x.length ≤ 100) (h0 : 0 ≤ k) (h1 : k < (vs.length : Int)) (hb : vs.length ≤ 100000) (h : ∀ x t, x.length ≤ 100 → Q (.str x t) s)
    (hs : subscripted slice false (.ref l) (.int k u) = operate [.ref l, .int k u] (getItem (.ref l) (.int k u)) := by with_unfolding_all rfl) :
    wpAny (model prog w) A (subscriptTail value slice (.ref l) (.int k u)) Q E s := by
  have hlt : k.toNat < vs.length := by omega
  have hl' : s.heap.IsList l vs.toArray := hl.at fun o e => F.keep _ _ e
  obtain ⟨x, hx, t, e⟩ := StrsAre.at hps k.toNat _ (List.getElem?_eq_getElem hlt)
  exact tail_any hl'.typeIs slot_list_getitem.lookup (wpAny_getItem_list hl' h0 (by omega) (x := .str x t) (by rw [← e]; simp [hlt]) (h x t (hbp x (List.mem_of_getElem? hx)))) hs
theorem upper_any {x : Str} {t : Tok} (hx : x.length ≤ 100) (h : ∀ y t', y.length ≤ 300 → Q (.str y t') { s with toks := s.toks + 1 }) : wpAny (model prog w) A (call (.builtin "str.upper") [.str x t]) Q E s :=
  SCL.upper (by omega) fun hl => h _ _ (by omega)
/-- a call of ours, whose contract stands -/
theorem call_ret {M : Model} {f : Value} {pos : List Value} {P : Value → Heap → Prop} {news : List (Addr × Obj)} (F : Fr h₀ L s.heap m) (N : News h₀ L s.heap news) 
    (hc : codeAny M A (.call f ⟨pos, []⟩) (RetK s P) s)
    (k : ∀ v h' tk, @LE.le Nat _ s.toks tk → P v h' → Fr h₀ L h' m → News h₀ L h' news → (∀ b o, s.heap.get? b = some o → h'.get? b = some o) → Q v { s with heap := h', toks := tk }) : wpAny M A (call f pos) Q E s := by
  refine wpAny_mono (wpAny_toks (wpAny_call (Q := fun v s' => RetK s P (.ok (.ret v)) s') (E := fun _ _ => False) (codeAny_mono hc fun r s' hr => ?_))) (fun v s' hq => ?_) fun _ _ e => e.2.elim
  · obtain ⟨v, h', tk, rfl, hs, hk, hp⟩ := hr
    exact ⟨v, h', tk, rfl, hs, hk, hp⟩
  · obtain ⟨ht, v', h', tk, e, rfl, hk, hp⟩ := hq
    cases e
    exact k v h' tk ht hp ⟨F.ns.at' fun o e => hk _ _ e, fun b o e => hk _ _ (F.keep b o e), F.above⟩ (fun p hp => ⟨hk _ _ (N p hp).1, (N p hp).2⟩) hk
end
local macro_rules | `(tactic| walk_at "call builtin:str.upper") => `(tactic| (refine upper_any ?b ?_; (case b => omega); intro y' t' hy'))
local macro_rules | `(tactic| walk_at "call ref") => `(tactic| (k_dflt (refine' call_ret ?F ?N (name_call ?X ?T ?r ?h ?z) ?_; (case F => k_asm); (case N => k_asm); (case X => exact Frag.In.keeps (by assumption) (Fr.keep (by k_asm))); (case T => exact TopRead.keeps (by assumption) (Fr.keep (by k_asm))); (case r => (simp only [depth_deeper]; omega)); (case h => assumption); (case z => assumption); rintro v' h' tk' ht' ⟨x', t', e', hx'⟩ F' N' k'; subst e')))
local macro_rules | `(tactic| walk_at "exec If") => `(tactic| (with_reducible refine wpAny_If ?_))
local macro_rules | `(tactic| walk_at "execs nil") => `(tactic| (with_reducible refine wpAny_execs_nil ?_))
local macro_rules | `(tactic| walk_at "execs cons") => `(tactic| (with_reducible refine wpAny_execs_cons ?_))
local macro_rules | `(tactic| walk_at "binaryOp Mod int int") => `(tactic| ((with_reducible refine mod_int' ?b ?_); (case b => first | decide | omega)))
local macro_rules | `(tactic| walk_at "binaryOp FloorDiv int int") => `(tactic| ((with_reducible refine floordiv_int ?b ?_ (Or.inl (PyProof.noPylong_of_log2 ?p))); (case b => decide); (case p => decide +kernel)))
local macro_rules | `(tactic| walk_at "subscriptTail") => `(tactic| (k_dflt (refine' tab_any ?F ?X ?l ?P ?a ?b ?c ?_; (case F => k_asm); (case X => assumption); (case l => k_is); (case P => with_unfolding_all rfl); (case a => exact fmod_lo _ (by decide)); (case b => exact fmod_hi _ (by decide)); (case c => decide); intro x' t' hx' h0' ht' hne')))
local macro_rules | `(tactic| walk_at "subscriptTail") => `(tactic| (k_dflt (refine' list_any ?F ?l ?P ?X ?a ?b ?c ?_; (case F => k_asm); (case l => with_reducible assumption); (case P => assumption); (case X => assumption); (case a => exact fmod_lo _ (by omega)); (case b => exact fmod_hi _ (by omega)); (case c => assumption); intro x' t' hx')))
local macro_rules | `(tactic| walk_at "subscriptTail") => `(tactic| ((with_reducible show wpAny _ _ (subscriptTail _ _ (Value.ref _) (Value.int 0 _)) _ _ _); k_dflt (refine' item0_led ?N ?m ?c ?d ?x ?_; (case N => k_asm); (case m => k_mem); (case c => rfl); (case d => exact ⟨_, rfl⟩); (case x => rfl))))
local macro_rules | `(tactic| walk_at "call builtin:len") => `(tactic| (k_dflt (refine' len_base ?F ?l ?n ?_; (case F => k_asm); (case l => assumption); (case n => assumption))))
local macro_rules | `(tactic| walk_at "call builtin:str.split") => `(tactic| (k_dflt (refine' split_line ?F ?N ?y ?x ?_; (case F => k_asm); (case N => k_asm); (case y => assumption); (case x => first | assumption | omega); intro D' p0' t0' ps' vs' h' k' e0' e1' e2' e3' F' N' lt')))

section
variable {prog : Program} {w : World} {A : Around} {s : Shared} {loose : List Str} {mg mb : Str → Option Value}

theorem there_call {a : Int} {ta : Tok} {sep : Str} {ts : Tok} {lp : Addr} {pvs : List Value} {ps : List Str} (X : (hd.heap_39 w.params).In s.heap) (T : TopRead hd.view_39 loose mg mb s.heap) (hr : A.depth + 1 < recursionLimit) (hh : A.handled = none)
    (hsl : (sep.length == 0) = false) (hsl2 : sep.length ≤ 12) (hpl : s.heap.IsList lp pvs.toArray) (hps : StrsAre pvs ps) (hbp : ∀ x ∈ ps, x.length ≤ 100) (hpos : 0 < pvs.length) (hpl2 : pvs.length ≤ 100000) :
    codeAny (model prog w) A (.call (.ref 48) ⟨[.int a ta, .str sep ts, .ref lp], []⟩) (RetK s (fun v _ => ∃ o, OptV o v ∧ Bd 1000 o)) s := by
  k_dflt (refine' enterM [(Str.ofString "a", .int a ta), (Str.ofString "sign", .str sep ts), (Str.ofString "preferred", .ref lp)] X T ?k6 ?k7 ?k8 ?k9 ?kB ?_ ?c2 ?c3 ?c4 ?c5; (case k6 => k_is); (case k7 => k_is); (case k8 => omega); (case k9 => first | exact BindsTo.of_eq (by rfl) | exact binds_K X rfl (by k_is) rfl (by rfl) (by rfl)); (case kB => exact locs rfl); (case c2 => exact rfl); (case c3 => exact rfl); (case c4 => exact rfl); (case c5 => decide))
  intro L h₁ tk hL ht F
  have N := News.nil (h₀ := s.heap) (L := L) (h := h₁)
  k_steps
  all_goals first
    | exact RetK.intro (by k_asm) ⟨none, rfl, trivial⟩
    | exact RetK.intro (by k_asm) ⟨some _, ⟨_, rfl⟩, by (show Str.length _ ≤ 1000); first | omega | decide⟩
end
end Mine

end

section
open PySem PySem.W PySem.Calls PyProof.Rows
set_option Elab.async false
set_option maxRecDepth 100000
set_option maxHeartbeats 8000000
namespace Mine
theorem TabOK.tableV {prog : Program} {w : World} {k : Int} {tv : Value} {tabN : List (Addr × Obj)} {h : Heap} (t : TabOK prog w k tv tabN) (N : ∀ p ∈ tabN, h.get? p.1 = some p.2) : TableV prog w h tv (tableK k) := by
  rcases t with ⟨rfl, rfl, rfl⟩ | ⟨_, d, o, ks, rfl, rfl, lo, hd, hf⟩
  · exact .inl ⟨rfl, rfl⟩
  · exact .inr ⟨d, rfl, TabAt.ofObj lo (N _ (.head _)) hd hf⟩
theorem tableK_len (k : Int) : ∀ p ∈ tableK k, p.2.length ≤ 1000 := by
  unfold tableK; split
  · decide
  · intro p hp; cases hp
theorem tableK_size (k : Int) : (tableK k).length ≤ 1000 := by
  unfold tableK; split
  · decide
  · exact Nat.zero_le _
theorem TabK.news {prog : Program} {w : World} {h₀ h₁ h : Heap} {L : Addr} {m : Str → Option Value} {k : Int} {tv : Value} {news : List (Addr × Obj)} (t : TabK prog w h₁ h k tv) (F : Fr h₀ L h₁ m) (N : News h₀ L h news) :
    ∃ tabN, TabOK prog w k tv tabN ∧ News h₀ L h (tabN ++ news) ∧ ∀ p ∈ tabN, h₁.get? p.1 = Option.none := by
  obtain ⟨tabN, a, b⟩ := t
  refine ⟨tabN, a, fun p hp => ?_, fun p hp => (b p hp).2⟩
  rcases List.mem_append.mp hp with hp | hp
  · refine ⟨(b p hp).1, ?_, ?_⟩
    · intro e
      obtain ⟨o, _, _, ho, _⟩ := F.ns
      have z := (b p hp).2
      rw [e, ho] at z; cases z
    · cases e : h₀.get? p.1 with
      | none => rfl
      | some o => have z := (b p hp).2; rw [F.keep _ _ e] at z; cases z
  · exact N p hp

section
variable {prog : Program} {w : World} {A : Around} {s : Shared} {env : Env} {h₀ : Heap} {L : Addr} {m : Str → Option Value} {news : List (Addr × Obj)} {E : Value → Shared → Prop} {Q : Value → Shared → Prop}

/-- a for over a list that its iterable's evaluation gives -/
theorem forSeqE {Q : Flow → Shared → Prop} {x : Str} {px pos : Pos} {iter : PySem.Expr} {body : List Stmt}
    (hh : A.handled = none) (hx : env.kindOf x = some .local)
    (hp : (env.scope.kind == .class || (env.scope.kind == .module && env.locals != env.globals)) = false)
    (hev : wpAny (model prog w) A (eval iter env) (fun xv s₁ => ∃ (ax : Addr) (vs : List Value) (m : Str → Option Value) (J : Nat → (Str → Option Value) → Heap → Prop), xv = .ref ax ∧ s₁.heap.IsList ax vs.toArray ∧ ax ≠ env.locals ∧ Fr h₀ env.locals s₁.heap m ∧
      (∀ h', (∀ b o, s₁.heap.get? b = some o → h'.get? b = some o) → J 0 m h') ∧
      (∀ i m h h', J i m h → KB [env.locals, s₁.heap.objs.size] h h' → J i m h') ∧
      (∀ i v m₁ h₁ tk, vs[i]? = some v → J i m₁ h₁ → Fr h₀ env.locals h₁ (fun y => if y = x then some v else m₁ y) → (∃ o, h₁.get? s₁.heap.objs.size = some o ∧ o.cls ≠ .type "tuple" ∧ o.cls ≠ .type "list") → s₁.toks ≤ tk →
        wpAny (model prog w) A (execs body env) (TurnEnd h₀ env.locals [s₁.heap.objs.size, ax] (J (i + 1)) s₁ h₁ Q) NoE { s₁ with heap := h₁, toks := tk }) ∧
      (∀ h' tk m', Fr h₀ env.locals h' m' → J vs.length m' h' → s₁.toks ≤ tk → Q .next { s₁ with heap := h', toks := tk })) NoE s)
    (hs : ∀ x, foldedSetIterable iter env x = pure x := by intro _; rfl) :
    wpAny (model prog w) A (exec (.For (.Name x px) iter body [] pos) env) Q NoE s := by
  refine wpAny_For (wpAny_mono hev (fun xv s₁ h₁ => ?_) fun _ _ e => e) hs
  obtain ⟨ax, vs, m, J, rfl, hl, hax, F, h0, adv, step, done⟩ := h₁
  have hLlt : env.locals < s₁.heap.objs.size := F.ns.lt
  have hI0 : h₀.get? s₁.heap.objs.size = none := Heap.get?_none_of_le (Nat.le_trans F.above (Nat.le_of_lt hLlt))
  have haxlt : ax < s₁.heap.objs.size := by
    obtain ⟨o, ho, _⟩ := hl; exact Heap.lt_size ho
  have hLf : env.locals ∉ [s₁.heap.objs.size, ax] := by
    simp only [List.mem_cons, List.not_mem_nil, or_false, not_or]
    exact ⟨Nat.ne_of_lt hLlt, fun e => hax e.symm⟩
  refine wpAny_pyIter_list hl ?_
  have W := Walks.list (prog := prog) (w := w) hh s₁.heap.objs.size ax (Nat.ne_of_lt haxlt) vs.toArray
  refine forLoopM (s := { s₁ with heap := _ }) (m := m) (P := fun i v => vs.toArray[i]? = some v) W hx hp hLf (fun b hb => by rw [List.mem_singleton.mp hb]; exact hI0)
    ⟨⟨_, Heap.get?_push_size _ rfl, rfl, rfl⟩, hl.at fun o e => Heap.get?_push_of_some _ e⟩ (F.push _) J (h0 _ fun b o e => Heap.get?_push_of_some _ e) adv
    (fun i v m₁ h₁ tk _ hP hJ F₁ st ht => step i v m₁ h₁ tk (by simpa using hP) hJ F₁ (by obtain ⟨⟨o, ho, hc, _⟩, _⟩ := st; exact ⟨o, ho, by rw [hc]; simp, by rw [hc]; simp⟩) ht) (fun h' tk m' F' hJ ht => ?_)
  have e : vs.toArray.size = vs.length := by simp
  rw [e] at hJ
  exact done h' tk m' F' hJ ht

theorem slice_ns {value slice : PySem.Expr} {l : Addr} {vs : List Value} {ns : List Int} {x y : Int} {tx ty : Tok} (F : Fr h₀ L s.heap m) (N : News h₀ L s.heap news) (hl : s.heap.IsList l vs.toArray) (hi : IntsAre vs ns) (h0 : 0 ≤ x) (h1 : 0 ≤ y) (hn : vs.length ≤ 100000)
    (h : ∀ D h' vs', Fr h₀ L h' m → News h₀ L h' ((D, listO vs') :: news) → IntsAre vs' ((ns.drop x.toNat).take (min y.toNat ns.length - x.toNat)) → (∀ p ∈ news, p.1 < D) → Q (.ref D) { s with heap := h' })
    (hs : subscripted slice false (.ref l) (.ref s.heap.objs.size) = operate [.ref s.heap.objs.size, .ref l] (getItem (.ref l) (.ref s.heap.objs.size)) := by with_unfolding_all rfl)
    (ht : ∀ r, letTemporaryGo value (.ref l) r = pure () := by intro _; with_unfolding_all rfl) :
    wpAny (model prog w) A (subscriptTail value slice (.ref l) (.ref s.heap.objs.size)) Q E { s with heap := s.heap.push { cls := .type "slice", data := .fields #[.int x tx, .int y ty, .none] } } := by
  refine slice_list F N hl (IsPart.int _ _) (IsPart.int _ _) (fun h' F' N' => h _ h' _ F' ?_ (kmk_run hi h0 h1) fun p hp => Nat.lt_succ_of_lt (Heap.lt_size (N p hp).1)) hs ht (by rw [List.size_toArray, sizeLine_eq]; omega)
  rw [Array.toArray_toList]
  exact N'

theorem append_S {hA : Addr} {R : List (Addr × Obj)} {hv : List Value} {n : Nat} {x : Value} (F : Fr h₀ L s.heap m) (N : News h₀ L s.heap ((hA, W.listOf hv.toArray n) :: R))
    (hne : ∀ p ∈ R, p.1 ≠ hA) (hsz : hv.length ≤ 1000)
    (h : ∀ h', Fr h₀ L h' m → News h₀ L h' ((hA, W.listOf (hv ++ [x]).toArray (n + 1)) :: R) → Q .none { s with heap := h' }) :
    wpAny (model prog w) A (call (.builtin "list.append") [.ref hA, x]) Q E s := by
  obtain ⟨z1, z2, z3⟩ := N (hA, W.listOf hv.toArray n) (.head _)
  dsimp only at z1 z2 z3
  refine append_at (hsz := by simp [sizeLine_eq]; omega) z1 fun h' hs ho' => ?_
  have e : hv.toArray.push x = (hv ++ [x]).toArray := by simp
  rw [e] at ho'
  refine h h' ⟨F.ns.sameBut hs (fun e => z2 e.symm), fun b o e => (hs.2 b fun q => ?_).trans (F.keep b o e), F.above⟩ (fun p hp => ?_)
  · rw [q, z3] at e; cases e
  · rcases List.mem_cons.mp hp with rfl | hp
    · exact ⟨ho', z2, z3⟩
    · have z := N p (.tail _ hp)
      exact ⟨(hs.2 _ (hne p hp)).trans z.1, z.2⟩

/-- a function with cells -/
theorem enterC {K : Frag} {p : Program} {loose : List Str} {mg mb : Str → Option Value}
    {R : Result → Shared → Prop} {name qual : Str} {params : Arguments} {body : List Stmt} {scope : Scope} {dV kV doc pm cdv ct oc : Value} {an od : Option Addr} {osl : Array (Option Value)} {f : Addr} {args : Args} (binds : List (Str × Value))
    (X : K.In s.heap) (T : TopRead p loose mg mb s.heap)
    (ho : K.lookup f = some ⟨oc, od, .func (fnOf name qual params body scope dV kV doc pm an cdv ct), osl⟩) (hcd : codeIn K cdv qual = true) (hroom : A.depth < recursionLimit)
    (hbind : BindsTo s (fnOf name qual params body scope dV kV doc pm an cdv ct) args binds)
    (hkind : (binds.all fun y => scope.names.lookup y.1 == some .local || scope.names.lookup y.1 == some .cell) = true)
    (hnd : ((cellsFrom 0 scope.names []).map (·.1)).Nodup)
    (h : ∀ L h₁ tk cells, s.heap.objs.size ≤ L → s.toks ≤ tk → Fr s.heap L h₁ (bindL (envOfC qual scope L f cdv).kindOf binds fun _ => none) → News s.heap L h₁ cells →
      CellsAre (bindC (envOfC qual scope L f cdv).kindOf binds fun _ => none) (cellsFrom (L + 1) scope.names []) cells →
      wpAny (model prog w) (A.deeper (envOfC qual scope L f cdv)) (execs body (envOfC qual scope L f cdv))
        (fun fl s' => R (.ok (.ret (match fl with | .ret v => v | _ => .none))) s') NoE
        { s with heap := h₁, toks := tk })
    (hco : scope.isCoroutine = false) (hgen : scope.isGenerator = false) (hk : scope.kind = .function) : codeAny (model prog w) A (.call (.ref f) args) R s := by
  refine codeAny_call_function hroom (X _ _ ho) rfl hco hgen rfl (codeRec_of X hcd) (hbind _ _ _ _ ?_)
  refine wpAny_with_toks (n := s.toks) (by first | exact Nat.le_refl _ | exact Nat.le_add_right _ _) (wpAny_newFunctionEnv_cells hk (kindsX hkind _) fun env' he s' x htk => ?_)
  subst he
  refine ⟨T.nolimit.keeps x.toInCall.keep, codeAny_func ?_⟩
  obtain ⟨h₁, tk, rfl, _⟩ := x.done
  have hk₁ := x.toInCall.keep
  obtain ⟨cells, NC, Y⟩ := Cl.news (h₀ := s.heap) (Nat.le_refl _) fun n c hm => ⟨x.cell n c (lookup_of_mem_nodup (cellsFrom_names scope.names 0 (s.heap.objs.size + 1) [] [] rfl ▸ hnd) hm), x.above n c hm⟩
  refine wpAny_mono (h s.heap.objs.size h₁ tk cells (Nat.le_refl _) htk ⟨x.toInCall.ns, hk₁, Nat.le_refl _⟩ NC Y) (fun _ _ x => x) (fun _ _ x => x.elim)
end
end Mine

end

section
open PySem PySem.W PySem.Calls PyProof.Rows
set_option Elab.async false
set_option maxRecDepth 100000
set_option maxHeartbeats 8000000
namespace Mine
theorem fillK7 : PySem.Challenge.rw_ez5001_01.Holds → hd.heap_39 = hd.heap_39 := by
  k_fill
  intro _; rfl

theorem num0 {prog : Program} {w : World} {A : Around} {s : Shared} {h₀ : Heap} {L : Addr} {m : Str → Option Value} {E : Value → Shared → Prop} {Q : Value → Shared → Prop} {value slice : PySem.Expr} {l : Addr} {vs : List Value} {zs : List Int} {u : Tok} (F : Fr h₀ L s.heap m) (hl : h₀.IsList l vs.toArray) (hi : IntsAre vs zs) (hn : zs.length = 9) (h : ∀ z t, Q (.int z t) s)
    (hs : subscripted slice false (.ref l) (.int 0 u) = operate [.ref l, .int 0 u] (getItem (.ref l) (.int 0 u)) := by with_unfolding_all rfl) :
    wpAny (model prog w) A (subscriptTail value slice (.ref l) (.int 0 u)) Q E s := by
  have hl' : s.heap.IsList l vs.toArray := hl.at fun o e => F.keep _ _ e
  cases hi with
  | nil => cases hn
  | cons n t hi => exact tail_any hl'.typeIs slot_list_getitem.lookup (wpAny_getItem_list hl' (Int.le_refl 0) (by decide) (x := .int n t) (by simp) (h n t)) hs

local macro_rules | `(tactic| walk_at "exec If") => `(tactic| (with_reducible refine wpAny_If ?_))
local macro_rules | `(tactic| walk_at "execs nil") => `(tactic| (with_reducible refine wpAny_execs_nil ?_))
local macro_rules | `(tactic| walk_at "execs cons") => `(tactic| (with_reducible refine wpAny_execs_cons ?_))
local macro_rules | `(tactic| walk_at "binaryOp Mod int int") => `(tactic| ((with_reducible refine mod_int' ?b ?_); (case b => decide)))
local macro_rules | `(tactic| walk_at "binaryOp FloorDiv int int") => `(tactic| ((with_reducible refine floordiv_int ?b ?_ (Or.inl (PyProof.noPylong_of_log2 ?p))); (case b => decide); (case p => decide +kernel)))
local macro_rules | `(tactic| walk_at "subscriptTail") => `(tactic| (k_dflt (refine' tab_any ?F ?X ?l ?P ?a ?b ?c ?_; (case F => k_asm); (case X => assumption); (case l => k_is); (case P => with_unfolding_all rfl); (case a => exact fmod_lo _ (by decide)); (case b => exact fmod_hi _ (by decide)); (case c => decide); intro x' t' hx' h0' ht' hne')))
local macro_rules | `(tactic| walk_at "subscriptTail") => `(tactic| ((with_reducible show wpAny _ _ (subscriptTail _ _ (Value.ref _) (Value.int 0 _)) _ _ _); k_dflt (refine' num0 ?F ?l ?i ?n ?_; (case F => k_asm); (case l => with_reducible assumption); (case i => with_reducible assumption); (case n => with_reducible assumption); intro z' t')))

local macro_rules | `(tactic| walk_at "call ref") => `(tactic| ((with_reducible rename Fr _ _ _ _ => kF); k_dflt (refine' call_ret kF ?N (table_call ?X ?T ?r) ?_; (case N => k_asm); (case X => exact Frag.In.keeps (by assumption) kF.keep); (case T => exact TopRead.keeps (by assumption) kF.keep); (case r => (simp only [depth_deeper]; omega)); intro v' h' tk' ht' P' F' N' k'; obtain ⟨tabN', tOK', N2', fr'⟩ := TabK.news P' kF N'; clear N' P' k')))
local macro_rules | `(tactic| k_all) => `(tactic| assumption)

section
variable {prog : Program} {w : World} {A : Around} {s : Shared} {h₀ : Heap} {L : Addr} {m : Str → Option Value} {news : List (Addr × Obj)}
def SliceE (s : Shared) (h₀ : Heap) (L : Addr) (m : Str → Option Value) (news : List (Addr × Obj)) (ks : List Int) (xv : Value) (s₁ : Shared) : Prop :=
  ∃ D vs' h' tk, xv = .ref D ∧ s₁ = { s with heap := h', toks := tk } ∧ Fr h₀ L h' m ∧ News h₀ L h' ((D, listO vs') :: news) ∧ IntsAre vs' ks ∧ ∀ p ∈ news, p.1 < D
theorem sliceCut {M : Model} {ks : List Int} {t : Sem Value} {Q : Value → Shared → Prop} {E : Value → Shared → Prop} (h : wpAny M A t (SliceE s h₀ L m news ks) NoE s)
    (k : ∀ D vs' h' tk, @LE.le Nat _ s.toks tk → Fr h₀ L h' m → News h₀ L h' ((D, listO vs') :: news) → IntsAre vs' ks → (∀ p ∈ news, p.1 < D) → Q (.ref D) { s with heap := h', toks := tk }) : wpAny M A t Q E s :=
  wpAny_mono (wpAny_toks h) (fun xv s' hq => by
    obtain ⟨ht, D, vs', h', tk, rfl, rfl, F, N, hi, hl⟩ := hq
    exact k D vs' h' tk ht F N hi hl) fun _ _ e => e.2.elim
theorem intsAt {vs : List Value} {ks : List Int} (h : IntsAre vs ks) {i : Nat} {v : Value} (hv : vs[i]? = some v) : ∃ k t, v = .int k t := by
  obtain ⟨k, t, e, _⟩ := IntsAre.at h i v hv
  exact ⟨k, t, e⟩
theorem stay2 {h₁ h' : Heap} {n₁ n' : List (Addr × Obj)} {I D : Addr} {oI oD : Obj} (N₁ : News h₀ L h₁ n₁) (N' : News h₀ L h' n') (a : (I, oI) ∈ n₁) (b : (D, oD) ∈ n₁) (a' : (I, oI) ∈ n') (b' : (D, oD) ∈ n') : ∀ b ∈ [I, D], ∀ o, h₁.get? b = some o → h'.get? b = some o := by
  intro x hx o e
  rcases List.mem_cons.mp hx with rfl | hx
  · have z := (N₁ _ a).1
    dsimp only at z
    rw [z] at e; cases e
    exact (N' _ a').1
  · rw [List.mem_singleton.mp hx] at e ⊢
    have z := (N₁ _ b).1
    dsimp only at z
    rw [z] at e; cases e
    exact (N' _ b').1
def TurnY (s : Shared) (h₀ : Heap) (L : Addr) (m : Str → Option Value) (news : List (Addr × Obj)) (PY : Value → Prop) (y : Value) (s₂ : Shared) : Prop :=
  ∃ h' tk', s₂ = { s with heap := h', toks := tk' } ∧ Fr h₀ L h' m ∧ News h₀ L h' news ∧ PY y
theorem rest_any {prog : Program} {w : World} {A : Around} {env : Env} {elt : PySem.Expr} {x : Str} {scope : Scope} {cl : List (Str × Addr)} {S : List (Addr × Obj) → Prop} {Fin : List Value → List (Addr × Obj) → Prop} {vs : List Value} {ks : List Int} {PY : Value → Prop}
    (hi : IntsAre vs ks) (hS : S news)
    (turn : ∀ k t I oI C oC D m₂ ys h tk (E' : Value → Shared → Prop), LCg.NsObj oC m₂ → m₂ x = some (.int k t) → Fr h₀ L h m → News h₀ L h ((I, oI) :: (C, oC) :: (D, LCg.lst ys) :: news) → LCg.Off3 I C D news → ((@Ne Nat I C) ∧ (@Ne Nat I D) ∧ (@Ne Nat C D)) →
      wpAny (model prog w) A (eval elt (compEnvC scope cl C env)) (TurnY s h₀ L m ((I, oI) :: (C, oC) :: (D, LCg.lst ys) :: news) PY) E' { s with heap := h, toks := tk })
    (fin : ∀ ys, ys.length = vs.length → (∀ y ∈ ys, PY y) → Fin ys news) : LCg.CompRest prog w A h₀ L m env elt x scope cl s S (fun i v => vs.toArray[i]? = some v) Fin vs.toArray.size 0 [] news := by
  have key : ∀ (j i : Nat) (ys : List Value), i + j = vs.length → ys.length = i → (∀ y ∈ ys, PY y) → LCg.CompRest prog w A h₀ L m env elt x scope cl s S (fun i v => vs.toArray[i]? = some v) Fin j i ys news := by
    intro j
    induction j with
    | zero => intro i ys e1 e2 hy; exact LCg.CompRest.zero (fin ys (by omega) hy)
    | succ j ih =>
      intro i ys e1 e2 hy
      refine LCg.CompRest.succ ?_
      intro v I oI C oC D m₂ h tk E' hv hC hx F N off ne
      obtain ⟨k, t, rfl⟩ := intsAt hi (i := i) (v := v) (by simpa using hv)
      refine wpAny_mono (turn k t I oI C oC D m₂ ys h tk E' hC hx F N off ne) (fun y s₂ hq => ?_) fun _ _ e => e
      obtain ⟨h', tk', rfl, F', N', hp⟩ := hq
      refine ⟨h', tk', news, rfl, F', N', off, hS, ih (i + 1) _ (by omega) (by simp [e2]) fun z hz => ?_⟩
      rcases List.mem_append.mp hz with hz | hz
      · exact hy z hz
      · rw [List.mem_singleton.mp hz]; exact hp
  have e : vs.toArray.size = vs.length := by simp
  rw [e]
  exact key vs.length 0 [] (by omega) rfl fun _ h => nomatch h
end
local macro_rules | `(tactic| walk_at "call ref") => `(tactic| ((with_reducible rename Fr _ _ _ _ => kF); (with_reducible rename News _ _ _ _ => kN); k_dflt (refine' call_ret kF kN (there_call ?X ?T ?r ?h ?a ?b ?p ?q ?i ?j ?k) ?_; (case X => exact Frag.In.keeps (by assumption) kF.keep); (case T => exact TopRead.keeps (by assumption) kF.keep); (case r => (simp only [depth_deeper]; omega)); (case h => assumption); (case a => assumption); (case b => assumption); (case p => exact News.isList kN (by k_mem)); (case q => assumption); (case i => assumption); (case j => assumption); (case k => assumption); rintro v' h' tk' ht' P' F' N' k'; clear k')))
theorem opts_of {ys : List Value} (h : ∀ y ∈ ys, ∃ o, OptV o y ∧ Bd 1000 o) : ∃ os, OptsAre ys os ∧ ∀ o ∈ os, Bd 1000 o := by
  induction ys with
  | nil => exact ⟨[], .nil, fun _ h => nomatch h⟩
  | cons y ys ih =>
    obtain ⟨o, ho, hb⟩ := h y (.head _)
    obtain ⟨os, a, b⟩ := ih fun z hz => h z (.tail _ hz)
    refine ⟨o :: os, .cons ho a, fun q hq => ?_⟩
    rcases List.mem_cons.mp hq with rfl | hq
    · exact hb
    · exact b q hq
local macro_rules | `(tactic| walk_at "call ref") => `(tactic| ((with_reducible rename Fr _ _ _ _ => kF); (with_reducible rename News _ _ _ _ => kN); k_dflt (refine' call_ret kF kN (due_call ?X ?T ?r ?u ?h ?pl ?ps ?p2 ?pn ?an ?al ?as ?tab ?ts ?sl ?s2 ?kb ?kl ?bp ?bo ?tk) ?_; (case X => exact Frag.In.keeps (by assumption) kF.keep); (case T => exact TopRead.keeps (by assumption) kF.keep); (case r => (simp only [depth_deeper]; omega)); (case u => (simp only [Around.deeper_units]; omega)); (case h => assumption); (case pl => exact News.isList kN (by k_mem)); (case ps => assumption); (case p2 => assumption); (case pn => assumption); (case al => exact News.isList kN (by k_mem)); (case as => assumption); (case an => assumption); (case tab => (refine TabOK.tableV (by assumption) fun p hp => (News.get (by assumption) (o := p.2) (a := p.1) ?_); simp only [List.mem_cons, hp, or_true])); (case ts => assumption); (case sl => assumption); (case s2 => assumption); (case kb => exact tableK_len _); (case kl => exact tableK_size _); (case bp => assumption); (case bo => assumption); (case tk => ((try dsimp only); omega)); intro v' h' tk' ht' P' F' N' k'; clear k')))
local macro_rules | `(tactic| walk_at "call ref") => `(tactic| ((with_reducible rename Fr _ _ _ _ => kF); (with_reducible rename News _ _ _ _ => kN); k_dflt (refine' call_ret kF kN (neg_call ?X ?T ?r ?h rfl (.inr ?pl) ?ps ?al ?as ?tab ?ts ?sl ?s2 ?kb ?kl ?an ?bp ?bo ?tk) ?_; (case X => exact Frag.In.keeps (by assumption) kF.keep); (case T => exact TopRead.keeps (by assumption) kF.keep); (case r => (simp only [depth_deeper]; omega)); (case h => assumption); (case pl => exact ⟨_, (kN _ (.head _)).1, rfl, _, rfl⟩); (case ps => assumption); (case al => exact News.isList kN (by k_mem)); (case as => assumption); (case an => assumption); (case tab => (refine TabOK.tableV (by assumption) fun p hp => (News.get (by assumption) (o := p.2) (a := p.1) ?_); simp only [List.mem_cons, hp, or_true])); (case ts => assumption); (case sl => assumption); (case s2 => assumption); (case kb => exact tableK_len _); (case kl => exact tableK_size _); (case bp => assumption); (case bo => assumption); (case tk => ((try dsimp only); omega)); intro v' h' tk' ht' P' F' N' k'; clear k')))
local macro_rules | `(tactic| walk_at "call type:tuple") => `(tactic| ((with_reducible rename Fr _ _ _ _ => kF); (with_reducible rename News _ _ _ _ => kN); k_dflt (refine' tuple_ofL kF kN (News.isList kN ?m) ?_ ?z; (case m => k_mem); (case z => (rw [sizeLine_eq]; omega)); intro D' h' F' N' k'; clear k')))
local macro_rules | `(tactic| walk_at "call type:list") => `(tactic| ((with_reducible rename Fr _ _ _ _ => kF); (with_reducible rename News _ _ _ _ => kN); k_dflt (refine' list_copyK kF kN (News.isList kN ?m) ?_ ?z; (case m => k_mem); (case z => (rw [sizeLine_eq]; simp only [List.size_toArray]; omega)); intro D' c' h' F' N' l')))
def FinMark : Prop := True
theorem rows_hit {Db r : List (PyData × PyData)} {k v u : PyData} (h1 : PySem.Spec.lookup k Db = some u) (h2 : PyData.eqv v u = true) (hr : KeqRows Db r true) : KeqRows Db ((k, v) :: r) true := by
  have := KeqRows.hit (v := v) h1 hr
  rwa [h2] at this
theorem rows_tab (k : Int) : KeqRows (dataOf (tableK k)) (dataOf (tableK k)) true := by
  unfold tableK
  split
  · refine rows_hit rfl ?_ (rows_hit rfl ?_ (rows_hit rfl ?_ (rows_hit rfl ?_ (rows_hit rfl ?_ (rows_hit rfl ?_ .nil)))))
    all_goals first | rfl | decide | simp [PyData.eqv]
  · exact .nil
theorem enc_str (a b : Str) : PySem.Spec.same (PyData.str a) (PyData.str b) = decide (a = b) := by
  show (a == b) = decide (a = b)
  rw [Bool.eq_iff_iff]; simp
section
variable {prog : Program} {w : World} {A : Around} {s : Shared} {h₀ : Heap} {L : Addr} {news : List (Addr × Obj)} {E : Value → Shared → Prop} {Q : Value → Shared → Prop}
theorem eq_tabs {d d2 : Addr} {o o2 : Obj} {ks ks2 : List (Str × Value)} {k : Int} (N : News h₀ L s.heap news) (m1 : (d, o) ∈ news) (m2 : (d2, o2) ∈ news) (lo : (d == sysModules) = false) (lo2 : (d2 == sysModules) = false)
    (hd : o.IsDictOf (PySem.strKind prog w) ks) (hd2 : o2.IsDictOf (PySem.strKind prog w) ks2) (hf : PyProof.V.FlatPairs PyData.str ks (dataOf (tableK k))) (hf2 : PyProof.V.FlatPairs PyData.str ks2 (dataOf (tableK k))) (hu : A.units < cLine) (h : Q (.bool true) s) :
    wpAny (model prog w) A (compareOp .Eq (.ref d) (.ref d2)) Q E s := by
  have el : ks.length = ks2.length := by rw [← hf.length, ← hf2.length]
  refine keq_eq lo lo2 (Heap.dictOf_iff.mpr ⟨o, N.get m1, hd⟩) (Heap.dictOf_iff.mpr ⟨o2, N.get m2, hd2⟩) hu (fun _ => KeqRows.hits enc_str hf2 hf (rows_tab k)) ?_
  rw [el]; simpa using h
theorem eq_lists {a b : Addr} {ys : List Value} (la : s.heap.IsList a ys.toArray) (lb : s.heap.IsList b ys.toArray) (hu : A.units < cLine) (h : Q (.bool true) s) :
    wpAny (model prog w) A (compareOp .Eq (.ref a) (.ref b)) Q E s :=
  SeqAt.eq_listAt (e := fun _ => true) la lb rfl hu (fun j _ _ => SeqAt.EqAt.same _) (by
    have e : ((List.range ys.toArray.size).all fun _ => true) = true := List.all_eq_true.mpr fun _ _ => rfl
    rw [e]; exact h)
theorem eq_texts {x : Str} {t u : Tok} (h : Q (.bool true) s) : wpAny (model prog w) A (compareOp .Eq (.str x t) (.str x u)) Q E s := eq_str (by simpa using h)
end
local macro_rules | `(tactic| walk_at "compareOp Eq str str") => `(tactic| ((with_reducible rename FinMark => kM); refine eq_texts ?_))
local macro_rules | `(tactic| walk_at "compareOp Eq ref ref") => `(tactic| ((with_reducible rename FinMark => kM); (with_reducible rename News _ _ _ _ => kN); k_dflt (refine' eq_lists ?a ?b ?u ?_; (case a => exact News.isList kN (by k_mem)); (case b => exact News.isList kN (by k_mem)); (case u => (simp only [Around.deeper_units]; omega)))))
local macro_rules | `(tactic| walk_at "compareOp Eq ref ref") => `(tactic| ((with_reducible rename FinMark => kM); (with_reducible rename News _ _ _ _ => kN); k_dflt (refine' eq_tabs kN ?a ?b ?c ?d ?e ?f ?g ?h ?u ?_; (case a => k_mem); (case b => k_mem); (case c => assumption); (case d => assumption); (case e => assumption); (case f => assumption); (case g => assumption); (case h => assumption); (case u => (simp only [Around.deeper_units]; omega)))))
local macro_rules | `(tactic| walk_at "call ref") => `(tactic| ((with_reducible rename FinMark => kM); (with_reducible rename Fr _ _ _ _ => kF); k_dflt (refine' call_ret kF ?N (table_call ?X ?T ?r) ?_; (case N => k_asm); (case X => exact Frag.In.keeps (by assumption) kF.keep); (case T => exact TopRead.keeps (by assumption) kF.keep); (case r => (simp only [depth_deeper]; omega)); intro v' h' tk' ht' P' F' N' k'; obtain ⟨tabN', tOK', N2', fr'⟩ := TabK.news P' kF N'; clear N' P' k'; rcases tOK' with ⟨hk', e', n'⟩ | ⟨hk', d', o', ks', e', n', lo', hd', hf'⟩ <;> subst e' <;> subst n' <;> (first | contradiction | simp only [List.cons_append, List.nil_append] at N2'))))
local macro_rules | `(tactic| walk_at "subscriptTail Name Slice ref ref") => `(tactic| ((with_reducible rename Fr _ _ _ _ => kF); k_dflt (refine' slice_ns kF ?N ?l ?i ?a ?b ?c ?_; (case N => k_asm); (case l => exact PySem.Heap.IsList.at hl fun o e => kF.keep _ _ e); (case i => with_reducible assumption); (case a => omega); (case b => omega); (case c => assumption); intro D' h' vs' F' N' i' l')))
local macro_rules | `(tactic| walk_at "call ref") => `(tactic| ((with_reducible rename Fr _ _ _ _ => kF); k_dflt (refine' call_ret kF ?N (name_call ?X ?T ?r ?h ?z) ?_; (case N => k_asm); (case X => exact Frag.In.keeps (by assumption) kF.keep); (case T => exact TopRead.keeps (by assumption) kF.keep); (case r => (simp only [depth_deeper]; omega)); (case h => assumption); (case z => assumption); rintro v' h' tk' ht' ⟨x', t', e', hx'⟩ F' N' k'; subst e'; clear k')))
local macro_rules | `(tactic| walk_at "call builtin:list.append") => `(tactic| (k_dflt (refine' append_S ?F ?N ?n ?z ?_; (case F => k_asm); (case N => k_asm); (case n => assumption); (case z => assumption); intro h' F' N')))

section
variable {prog : Program} {w : World} {A : Around} {s : Shared} {loose : List Str} {mg mb : Str → Option Value}

theorem round_call {ns : Addr} {vs : List Value} {zs : List Int} (X : (hd.heap_39 w.params).In s.heap) (T : TopRead hd.view_39 loose mg mb s.heap) (hr : A.depth + 3 < recursionLimit) (hu : A.units + 60 < cLine) (hh : A.handled = none)
    (hl : s.heap.IsList ns vs.toArray) (hi : IntsAre vs zs) (hn : zs.length = 9) (htk : @LE.le Nat _ 386 s.toks) :
    codeAny (model prog w) A (.call (.ref 58) ⟨[.ref ns], []⟩) (RetK s (fun v _ => v = .bool true)) s := by
  k_dflt (refine' enterC [(Str.ofString "numbers", .ref ns)] X T ?k6 ?k7 ?k8 ?k9 ?kB ?kD ?_ ?c2 ?c3 ?c4; (case k6 => k_is); (case k7 => k_is); (case k8 => omega); (case k9 => first | exact BindsTo.of_eq (by rfl) | exact binds_K X rfl (by k_is) rfl (by rfl) (by rfl)); (case kB => exact rfl); (case kD => decide +kernel); (case c2 => exact rfl); (case c3 => exact rfl); (case c4 => exact rfl))
  intro L h₁ tk cells hL ht F N Y
  have hY := CellsAre.two Y
  obtain ⟨o1, o2, rfl, d1, d2⟩ := hY
  clear Y
  replace F : Fr s.heap L h₁ (up (fun _ => none) (Str.ofString "numbers") (.ref ns)) := F
  replace d1 : o1.data = .cell none := d1
  replace d2 : o2.data = .cell none := d2
  have htk1 : @LE.le Nat _ 386 tk := Nat.le_trans htk ht
  -- c
  refine wpAny_execs_cons (cutM (h₀ := s.heap) (L := L) (J := fun m h => ∃ c tc, m = up (up (fun _ => none) (Str.ofString "numbers") (.ref ns)) (Str.ofString "c") (.int c tc) ∧ News s.heap L h [(L + 1 + 1, o1), (L + 1, o2)]) ?_ ?_)
  · k_steps
    all_goals exact CutE.intro (by assumption) ⟨_, _, rfl, by assumption⟩
  rintro h₂ tk₂ m₂ ht₂ F₂ ⟨c, tc, rfl, N₂⟩
  dsimp only at ht₂
  clear F N
  -- sign
  refine wpAny_execs_cons (cutM (h₀ := s.heap) (L := L) (J := fun m h => ∃ sg ts, m = up (up (up (fun _ => none) (Str.ofString "numbers") (.ref ns)) (Str.ofString "c") (.int c tc)) (Str.ofString "sign") (.str sg ts) ∧ News s.heap L h [(L + 1 + 1, o1), (L + 1, o2)] ∧ sg.length ≤ 12 ∧ ts ≠ 0 ∧ @LT.lt Nat _ ts 386 ∧ (sg.length == 0) = false) ?_ ?_)
  · k_steps
    all_goals exact CutE.intro (by assumption) ⟨_, _, rfl, by assumption, by assumption, by assumption, by assumption, by assumption⟩
  rintro h₃ tk₃ m₃ ht₃ F₃ ⟨sg, ts, rfl, N₃, hsg, hts, htsl, hsge⟩
  dsimp only at ht₃
  clear F₂ N₂
  -- table
  refine wpAny_execs_cons (cutM (h₀ := s.heap) (L := L) (J := fun m h => ∃ tv tabN, m = (up (up (up (up (fun _ => none) (Str.ofString "numbers") (.ref ns)) (Str.ofString "c") (.int c tc)) (Str.ofString "sign") (.str sg ts)) (Str.ofString "table") tv) ∧ News s.heap L h ((L + 1 + 1, o1) :: (L + 1, o2) :: tabN) ∧ TabOK prog w ((c.fdiv 3).fmod 3) tv tabN ∧ (∀ p ∈ tabN, p.1 ≠ L + 1 + 1) ∧ (∀ p ∈ tabN, p.1 ≠ L + 1)) ?_ ?_)
  · have old1 := (N₃ _ (.head _)).1
    have old2 := (N₃ _ (.tail _ (.head _))).1
    dsimp only at old1 old2
    k_steps
    all_goals refine CutE.intro (by assumption) ⟨_, _, rfl, fun p hp => (by assumption : News s.heap L _ (_ ++ [(L + 1 + 1, o1), (L + 1, o2)])) p ?_, by assumption, fun p hp e => ?_, fun p hp e => ?_⟩
    · simp only [List.mem_append, List.mem_cons, List.not_mem_nil, or_false] at hp ⊢
      rcases hp with h | h | h
      · exact .inr (.inl h)
      · exact .inr (.inr h)
      · exact .inl h
    · have z := (by assumption : ∀ p ∈ _, h₃.get? p.1 = none) p hp
      rw [e, old1] at z; cases z
    · have z := (by assumption : ∀ p ∈ _, h₃.get? p.1 = none) p hp
      rw [e, old2] at z; cases z
  rintro h₄ tk₄ m₄ ht₄ F₄ ⟨tv, tabN, rfl, N₄, hT, hne1, hne2⟩
  dsimp only at ht₄
  clear F₃ N₃
  -- written
  refine wpAny_execs_cons (cutM (h₀ := s.heap) (L := L) (J := fun m h => ∃ wr tw o2', m = (up (up (up (up (fun _ => none) (Str.ofString "numbers") (.ref ns)) (Str.ofString "c") (.int c tc)) (Str.ofString "sign") (.str sg ts)) (Str.ofString "table") tv) ∧ News s.heap L h ((L + 1 + 1, o1) :: (L + 1, o2') :: tabN) ∧ o2'.data = .cell (some (.str wr tw)) ∧ wr.length ≤ 12 ∧ (wr.length == 0) = false) ?_ ?_)
  · k_steps
    all_goals exact CutE.intro (by assumption) ⟨_, _, _, rfl, by assumption, by assumption, by assumption, by assumption⟩
  rintro h₅ tk₅ m₅ ht₅ F₅ ⟨wr, tw, o2', rfl, N₅, dW, hwl, hwe⟩
  dsimp only at ht₅
  clear F₄ N₄
  -- preferred
  refine wpAny_execs_cons (cutM (h₀ := s.heap) (L := L) (J := fun m h => ∃ lp o1', m = (up (up (up (up (fun _ => none) (Str.ofString "numbers") (.ref ns)) (Str.ofString "c") (.int c tc)) (Str.ofString "sign") (.str sg ts)) (Str.ofString "table") tv) ∧ News s.heap L h ((lp, W.listOf ([] : List Value).toArray 0) :: (L + 1 + 1, o1') :: (L + 1, o2') :: tabN) ∧ o1'.data = .cell (some (.ref lp)) ∧ (@LT.lt Nat _ (L + 1 + 1) lp ∧ @LT.lt Nat _ (L + 1) lp ∧ AllLt lp tabN)) ?_ ?_)
  · k_steps
    all_goals exact CutE.intro (by assumption) ⟨_, _, rfl, by assumption, by assumption, by assumption⟩
  rintro h₆ tk₆ m₆ ht₆ F₆ ⟨lp, o1', rfl, N₆, dP, hlt1, hlt2, hlt3⟩
  dsimp only at ht₆
  clear F₅ N₅
  -- the names asked for
  have q0 := fmod_lo (c.fdiv 27) (b := 4) (by decide)
  have q1 := fmod_hi (c.fdiv 27) (b := 4) (by decide)
  have hvn : vs.length ≤ 100000 := by rw [hi.length, hn]; decide
  refine wpAny_execs_cons (forSeqE (h₀ := s.heap) hh rfl (by rfl) ?_)
  refine sliceCut (h₀ := s.heap) (L := L) (m := (up (up (up (up (fun _ => none) (Str.ofString "numbers") (.ref ns)) (Str.ofString "c") (.int c tc)) (Str.ofString "sign") (.str sg ts)) (Str.ofString "table") tv)) (news := ((lp, W.listOf ([] : List Value).toArray 0) :: (L + 1 + 1, o1') :: (L + 1, o2') :: tabN)) (ks := (zs.drop (1 : Int).toNat).take (min (1 + (c.fdiv 27).fmod 4 + 1).toNat zs.length - (1 : Int).toNat)) ?_ ?_
  · k_steps
    all_goals exact ⟨_, _, _, _, rfl, rfl, by assumption, by assumption, by assumption, by first | assumption | (apply tb_ltOf; assumption)⟩
  rintro D vs' h₇ tk₇ ht₇ F₇ N₇ hi' hlD
  dsimp only at ht₇
  clear F₆ N₆
  have hvs' : vs'.length = (1 + ((c.fdiv 27).fmod 4)).toNat := by
    rw [hi'.length, List.length_take, List.length_drop, hn]
    omega
  have hlpD : @LT.lt Nat _ lp D := hlD _ (.head _)
  have hLI : L < h₇.objs.size := F₇.ns.lt
  have hI0 : s.heap.get? h₇.objs.size = none := Heap.get?_none_of_le (Nat.le_trans hL (Nat.le_of_lt hLI))
  have ltlp : lp < h₇.objs.size := Heap.lt_size (N₇ _ (.tail _ (.head _))).1
  have ltlp : lp < h₇.objs.size := Heap.lt_size (N₇ _ (.tail _ (.head _))).1
  have ltI : ∀ p ∈ ((D, listO vs') :: (lp, W.listOf ([] : List Value).toArray 0) :: (L + 1 + 1, o1') :: (L + 1, o2') :: tabN), p.1 < h₇.objs.size := fun p hp => Heap.lt_size (N₇ p hp).1
  refine ⟨D, vs', (up (up (up (up (fun _ => none) (Str.ofString "numbers") (.ref ns)) (Str.ofString "c") (.int c tc)) (Str.ofString "sign") (.str sg ts)) (Str.ofString "table") tv), fun i m h => (∀ z, z ≠ (Str.ofString "a") → m z = (up (up (up (up (fun _ => none) (Str.ofString "numbers") (.ref ns)) (Str.ofString "c") (.int c tc)) (Str.ofString "sign") (.str sg ts)) (Str.ofString "table") tv) z) ∧ ∃ pvs n ps, News s.heap L h ((lp, W.listOf pvs.toArray n) :: (D, listO vs') :: (L + 1 + 1, o1') :: (L + 1, o2') :: tabN) ∧ StrsAre pvs ps ∧ ps.length = i ∧ ∀ x ∈ ps, x.length ≤ 100,
    rfl, N₇.isList (.head _), (N₇ _ (.head _)).2.1, F₇, ?_, ?_, ?_, ?_⟩
  · intro h' hk'
    refine ⟨fun _ _ => rfl, [], 0, [], fun p hp => ?_, .nil, rfl, fun _ hx => nomatch hx⟩
    have z := N₇ p (by
      rcases List.mem_cons.mp hp with h | hp
      · rw [h]; exact .tail _ (.head _)
      · rcases List.mem_cons.mp hp with h | hp
        · rw [h]; exact .head _
        · exact .tail _ (.tail _ hp))
    exact ⟨hk' _ _ z.1, z.2⟩
  · rintro i m h h' ⟨a, pvs, n, ps, b, c', d, e⟩ hk'
    refine ⟨a, pvs, n, ps, fun p hp => ⟨hk' _ _ ?_ (b p hp).1, (b p hp).2⟩, c', d, e⟩
    have z : p.1 < h₇.objs.size := by
      rcases List.mem_cons.mp hp with h | hp
      · rw [h]; exact ltlp
      · rcases List.mem_cons.mp hp with h | hp
        · rw [h]; exact ltI _ (.head _)
        · exact ltI _ (.tail _ (.tail _ hp))
    simp only [List.mem_cons, List.not_mem_nil, or_false, not_or]
    exact ⟨(b p hp).2.1, Nat.ne_of_lt z⟩
  · rintro i v m₁ h₈ tk₈ hv ⟨hmeq, pvs, n, ps, N₈, hps, hpn, hpb⟩ F₈ ⟨oI, hoI, _, _⟩ htk₈
    obtain ⟨k, t, rfl⟩ := intsAt hi' hv
    dsimp only at hoI htk₈
    replace F₈ : Fr s.heap L h₈ (up (up (up (up (up (fun _ => none) (Str.ofString "numbers") (.ref ns)) (Str.ofString "c") (.int c tc)) (Str.ofString "sign") (.str sg ts)) (Str.ofString "table") tv) (Str.ofString "a") (.int k t)) := frSame F₈ hmeq
    have hilt : i < 4 := by
      have z := (List.getElem?_eq_some_iff.mp hv).1
      rw [hvs'] at z; omega
    have hpl : pvs.length ≤ 1000 := by rw [hps.length, hpn]; omega
    have N₉ : News s.heap L h₈ ((lp, W.listOf pvs.toArray n) :: (h₇.objs.size, oI) :: (D, listO vs') :: (L + 1 + 1, o1') :: (L + 1, o2') :: tabN) := fun p hp => by
      rcases List.mem_cons.mp hp with h | hp
      · rw [h]; exact N₈ _ (.head _)
      · rcases List.mem_cons.mp hp with h | hp
        · rw [h]; exact ⟨hoI, Nat.ne_of_gt hLI, hI0⟩
        · exact N₈ _ (.tail _ hp)
    have hneR : ∀ p ∈ ((h₇.objs.size, oI) :: (D, listO vs') :: (L + 1 + 1, o1') :: (L + 1, o2') :: tabN), p.1 ≠ lp := fun p hp => by
      rcases List.mem_cons.mp hp with h | hp
      · rw [h]; exact Nat.ne_of_gt ltlp
      · rcases List.mem_cons.mp hp with h | hp
        · rw [h]; exact Nat.ne_of_gt hlpD
        · rcases List.mem_cons.mp hp with h | hp
          · rw [h]; exact Nat.ne_of_lt hlt1
          · rcases List.mem_cons.mp hp with h | hp
            · rw [h]; exact Nat.ne_of_lt hlt2
            · exact tbn_neAll hlt3 p hp
    have fin : ∀ (h' : Heap) (y : Str) (t' : Tok), Fr s.heap L h' (up (up (up (up (up (fun _ => none) (Str.ofString "numbers") (.ref ns)) (Str.ofString "c") (.int c tc)) (Str.ofString "sign") (.str sg ts)) (Str.ofString "table") tv) (Str.ofString "a") (.int k t)) → News s.heap L h' ((lp, W.listOf (pvs ++ [Value.str y t']).toArray (n + 1)) :: (h₇.objs.size, oI) :: (D, listO vs') :: (L + 1 + 1, o1') :: (L + 1, o2') :: tabN) → y.length ≤ 100 →
        ((∀ z, z ≠ (Str.ofString "a") → up (up (up (up (up (fun _ => none) (Str.ofString "numbers") (.ref ns)) (Str.ofString "c") (.int c tc)) (Str.ofString "sign") (.str sg ts)) (Str.ofString "table") tv) (Str.ofString "a") (.int k t) z = (up (up (up (up (fun _ => none) (Str.ofString "numbers") (.ref ns)) (Str.ofString "c") (.int c tc)) (Str.ofString "sign") (.str sg ts)) (Str.ofString "table") tv) z) ∧ ∃ pvs n ps, News s.heap L h' ((lp, W.listOf pvs.toArray n) :: (D, listO vs') :: (L + 1 + 1, o1') :: (L + 1, o2') :: tabN) ∧ StrsAre pvs ps ∧ ps.length = i + 1 ∧ ∀ x ∈ ps, x.length ≤ 100) := by
      intro h' y t' F' N' hy
      refine ⟨fun z hz => by simp [hz], pvs ++ [Value.str y t'], n + 1, ps ++ [y], fun p hp => N' p ?_, ?_, by simp [hpn], fun x hx => ?_⟩
      · rcases List.mem_cons.mp hp with h | hp
        · rw [h]; exact .head _
        · exact .tail _ (.tail _ hp)
      · exact StrsAre.append' hps (.cons y t' .nil)
      · rcases List.mem_append.mp hx with hx | hx
        · exact hpb x hx
        · rw [List.mem_singleton.mp hx]; exact hy
    have N₉' := N₉
    clear N₈ N₇ F₇
    k_steps
    all_goals exact turnNext (by assumption) (stay2 N₉' (by assumption) (.tail _ (.head _)) (.tail _ (.tail _ (.head _))) (.tail _ (.head _)) (.tail _ (.tail _ (.head _)))) (fin _ _ _ (by assumption) (by assumption) (by first | assumption | decide))
  intro h₉ tk₉ m₉ F₉ ⟨hmeq, pvs, n, ps, N₉, hps, hpn, hpb⟩ ht₉
  replace F₉ : Fr s.heap L h₉ (fun y => if y = (Str.ofString "a") then m₉ (Str.ofString "a") else (up (up (up (up (fun _ => none) (Str.ofString "numbers") (.ref ns)) (Str.ofString "c") (.int c tc)) (Str.ofString "sign") (.str sg ts)) (Str.ofString "table") tv) y) := frBack F₉ hmeq
  generalize m₉ (Str.ofString "a") = va at F₉
  clear hmeq N₇ F₇ ltlp ltI
  dsimp only at ht₉
  have hpvl : pvs.length = (1 + (c.fdiv 27).fmod 4).toNat := by rw [hps.length, hpn, hvs']
  have hpos : 0 < pvs.length := by omega
  have hpl4 : pvs.length ≤ 4 := by omega
  have hpl5 : pvs.length ≤ 100000 := by omega
  -- what is there
  have r0 := fmod_lo (c.fdiv 108) (b := 4) (by decide)
  have r1 := fmod_hi (c.fdiv 108) (b := 4) (by decide)
  refine wpAny_execs_cons (wpAny_with_toks (n := tk₉) (Nat.le_refl _) (LCg.Assign_ListComp_U (F₀ := F₉) rfl (by with_unfolding_all rfl) (by with_unfolding_all rfl) (by decide) (by rfl) (by decide) (by rfl) (by rfl) (by rfl) ?_))
  refine sliceCut (h₀ := s.heap) (L := L) (m := (fun y => if y = (Str.ofString "a") then va else (up (up (up (up (fun _ => none) (Str.ofString "numbers") (.ref ns)) (Str.ofString "c") (.int c tc)) (Str.ofString "sign") (.str sg ts)) (Str.ofString "table") tv) y)) (news := ((lp, W.listOf pvs.toArray n) :: (D, listO vs') :: (L + 1 + 1, o1') :: (L + 1, o2') :: tabN)) (ks := (zs.drop (5 : Int).toNat).take (min (5 + (c.fdiv 108).fmod 4 + 1).toNat zs.length - (5 : Int).toNat)) ?_ ?_
  · k_steps
    all_goals exact ⟨_, _, _, _, rfl, rfl, by assumption, by assumption, by assumption, by first | assumption | (apply tb_ltOf; assumption)⟩
  rintro D2 vs2 h₁₀ tk₁₀ ht₁₀ F₁₀ N₁₀ hi2 hlD2
  dsimp only at ht₁₀
  have hvs2 : vs2.length = (1 + ((c.fdiv 108).fmod 4)).toNat := by
    rw [hi2.length, List.length_take, List.length_drop, hn]
    omega
  refine LCg.CompSrc.ledger hh F₁₀ N₁₀ (.head _) (by rw [List.size_toArray, sizeLine_eq]; omega) fun g => ?_
  refine rest_any (PY := fun y => ∃ o, OptV o y ∧ Bd 1000 o) hi2 (.inr ⟨_, .head _, rfl, _, rfl⟩) ?_ ?_
  · intro k t I oI C oC D3 m₂ ys h tk E' hC hm2 F₁₁ N₁₁ off hne
    clear N₁₀ F₁₀ N₉ F₉
    k_steps
    all_goals exact ⟨_, _, rfl, by assumption, by assumption, by assumption⟩
  intro ys hyl hys D4 h₁₁ tk₁₁ F₁₁ N₁₁ hoff htk₁₁
  dsimp only at htk₁₁
  clear hoff
  obtain ⟨os, has, hbo⟩ := opts_of hys
  have hya : ys.length ≤ 4 := by omega
  have hpn4 : LeN ps.length 4 := by rw [hpn, hvs']; show _ ≤ _; omega
  have hpb2 : ∀ x ∈ ps, x.length ≤ 1000 := fun x hx => Nat.le_trans (hpb x hx) (by decide)
  have hsg2 : sg.length ≤ 1000 := by omega
  have hya2 : ys.length ≤ 1000 := by omega
  clear N₁₀ F₁₀ N₉ F₉
  replace F₁₁ : Fr s.heap L h₁₁ (up (fun y => if y = (Str.ofString "a") then va else (up (up (up (up (fun _ => none) (Str.ofString "numbers") (.ref ns)) (Str.ofString "c") (.int c tc)) (Str.ofString "sign") (.str sg ts)) (Str.ofString "table") tv) y) (Str.ofString "available") (.ref D4)) := F₁₁
  -- due
  refine wpAny_execs_cons (cutM (h₀ := s.heap) (L := L) (J := fun m h => ∃ vd, m = (up (up (fun y => if y = (Str.ofString "a") then va else (up (up (up (up (fun _ => none) (Str.ofString "numbers") (.ref ns)) (Str.ofString "c") (.int c tc)) (Str.ofString "sign") (.str sg ts)) (Str.ofString "table") tv) y) (Str.ofString "available") (.ref D4)) (Str.ofString "due") vd) ∧ News s.heap L h ((D4, LCg.lst ys) :: (D2, listO vs2) :: (lp, W.listOf pvs.toArray n) :: (D, listO vs') :: (L + 1 + 1, o1') :: (L + 1, o2') :: tabN) ∧ OptV (negF os (tableK ((c.fdiv 3).fmod 3)) sg ps) vd) ?_ ?_)
  · k_steps
    all_goals exact CutE.intro (by assumption) ⟨_, rfl, by assumption, by assumption⟩
  rintro h₁₂ tk₁₂ m₁₂ ht₁₂ F₁₂ ⟨vd, rfl, N₁₂, hvd⟩
  dsimp only at ht₁₂
  clear F₁₁ N₁₁
  -- handed
  refine wpAny_execs_cons (cutM (h₀ := s.heap) (L := L) (J := fun m h => ∃ D5 n5, m = (up (up (up (fun y => if y = (Str.ofString "a") then va else (up (up (up (up (fun _ => none) (Str.ofString "numbers") (.ref ns)) (Str.ofString "c") (.int c tc)) (Str.ofString "sign") (.str sg ts)) (Str.ofString "table") tv) y) (Str.ofString "available") (.ref D4)) (Str.ofString "due") vd) (Str.ofString "handed") (.ref D5)) ∧ News s.heap L h ((D5, W.listOf ys.toArray n5) :: (D4, LCg.lst ys) :: (D2, listO vs2) :: (lp, W.listOf pvs.toArray n) :: (D, listO vs') :: (L + 1 + 1, o1') :: (L + 1, o2') :: tabN)) ?_ ?_)
  · k_steps
    all_goals exact CutE.intro (by assumption) ⟨_, _, rfl, by assumption⟩
  rintro h₁₃ tk₁₃ m₁₃ ht₁₃ F₁₃ ⟨D5, n5, rfl, N₁₃⟩
  dsimp only at ht₁₃
  clear F₁₂ N₁₂
  -- told
  refine wpAny_execs_cons (cutM (h₀ := s.heap) (L := L) (J := fun m h => ∃ vt, m = (up (up (up (up (fun y => if y = (Str.ofString "a") then va else (up (up (up (up (fun _ => none) (Str.ofString "numbers") (.ref ns)) (Str.ofString "c") (.int c tc)) (Str.ofString "sign") (.str sg ts)) (Str.ofString "table") tv) y) (Str.ofString "available") (.ref D4)) (Str.ofString "due") vd) (Str.ofString "handed") (.ref D5)) (Str.ofString "told") vt) ∧ News s.heap L h ((D5, W.listOf ys.toArray n5) :: (D4, LCg.lst ys) :: (D2, listO vs2) :: (lp, W.listOf pvs.toArray n) :: (D, listO vs') :: (L + 1 + 1, o1') :: (L + 1, o2') :: tabN) ∧ OptV (negF os (tableK ((c.fdiv 3).fmod 3)) sg ps) vt) ?_ ?_)
  · k_steps
    all_goals exact CutE.intro (by assumption) ⟨_, rfl, fun p hp => (by assumption : News s.heap L _ (_ :: (D5, W.listOf ys.toArray n5) :: _)) p (.tail _ hp), by assumption⟩
  rintro h₁₄ tk₁₄ m₁₄ ht₁₄ F₁₄ ⟨vt, rfl, N₁₄, hvt⟩
  dsimp only at ht₁₄
  clear F₁₃ N₁₃
  have fm : FinMark := trivial
  have hun : A.units + 2 < cLine := by omega
  rcases hT with ⟨hk1, rfl, rfl⟩ | ⟨hk1, d, o, ks, rfl, rfl, lo, hd, hf⟩
  all_goals cases hneg : negF os (tableK ((c.fdiv 3).fmod 3)) sg ps with
    | none =>
      rw [hneg] at hvd hvt
      cases hvd; cases hvt
      k_steps
      all_goals exact RetK.intro (by assumption) rfl
    | some x =>
      rw [hneg] at hvd hvt
      obtain ⟨t1, rfl⟩ := hvd
      obtain ⟨t2, rfl⟩ := hvt
      k_steps
      all_goals exact RetK.intro (by assumption) rfl
end
end Mine

end

section
open PySem PySem.W PySem.Calls PyProof.Rows
set_option Elab.async false
set_option maxRecDepth 100000
set_option maxHeartbeats 8000000
namespace Mine
theorem fillK8 : PySem.Challenge.rw_ez5001_01.Holds → hd.heap_39 = hd.heap_39 := by
  k_fill
  intro _; rfl
theorem found1 : negF [some (Str.ofString "ZH"), some (Str.ofString "nb_no")] (tableK 0) (Str.ofString "-") [Str.ofString "xx", Str.ofString "zh-CN", Str.ofString "no"] = some (Str.ofString "zh") := by decide +kernel
theorem found2 : negF [some (Str.ofString "nb-no"), some (Str.ofString "ZH")] (tableK 0) (Str.ofString "-") [Str.ofString "xx", Str.ofString "zh_CN", Str.ofString "no"] = some (Str.ofString "nb-NO") := by decide +kernel
def Mark1 : Prop := True
def Mark2 : Prop := True
theorem found1V {v : Value} (h : OptV (negF [some (Str.ofString "ZH"), some (Str.ofString "nb_no")] (tableK 0) (Str.ofString "-") [Str.ofString "xx", Str.ofString "zh-CN", Str.ofString "no"]) v) : ∃ t, v = .str (Str.ofString "zh") t := by
  rw [found1] at h; exact h
theorem found2V {v : Value} (h : OptV (negF [some (Str.ofString "nb-no"), some (Str.ofString "ZH")] (tableK 0) (Str.ofString "-") [Str.ofString "xx", Str.ofString "zh_CN", Str.ofString "no"]) v) : ∃ t, v = .str (Str.ofString "nb-NO") t := by
  rw [found2] at h; exact h
def IsNum (y : Value) : Prop := ∃ (k : Int) (t : Tok), y = .int k t
theorem ints_of {ys : List Value} (h : ∀ y ∈ ys, IsNum y) : ∃ ks, IntsAre ys ks := by
  induction ys with
  | nil => exact ⟨[], .nil⟩
  | cons y ys ih =>
    obtain ⟨k, t, rfl⟩ := h y (.head _)
    obtain ⟨ks, a⟩ := ih fun z hz => h z (.tail _ hz)
    exact ⟨k :: ks, .cons k t a⟩

theorem ld_builtR {M : Model} {A : Around} {E : Value → Shared → Prop} {s : Shared} {K : Frag} {h₀ : Heap} {L C : Addr} {m mg mb : Str → Option Value} {env : Env} {scope : Scope} {cl : List (Str × Addr)} {p : Program} {loose : List Str} {x : Str} {pos : Pos} {v : Value} {Q : Value → Shared → Prop}
    (F : Fr h₀ L s.heap m) (X : K.In h₀) (T : TopRead p loose mg mb h₀) (e : nsIn K mainGlobals x = some none) (hv : bootBuiltins x = some v) (hn : x ≠ "__name__") (h : Q v s) (hg : env.globals = mainGlobals := by rfl) (hb : env.builtins = builtinsNs := by rfl)
    (hk : (compEnvC scope cl C env).scope.kind = .function := by rfl) (hx : (compEnvC scope cl C env).kindOf x = some .globalImplicit := by rfl) (hd : (x == ("__debug__" : Str)) = false := by decide) :
    wpAny M A (eval (.Name x pos) (compEnvC scope cl C env)) Q E s :=
  Name_function_global hk hx (loadGlobal_builtin (env := compEnvC scope cl C env) (show s.heap.Ns env.globals mg from hg ▸ (T.g.keeps F.keep)) (mg_none_of X T.g e) (show s.heap.Ns env.builtins mb from hb ▸ (T.b.keeps F.keep)) ((T.builtins x hn).trans hv) h) hd
local macro_rules | `(tactic| walk_at "exec If") => `(tactic| (with_reducible refine wpAny_If ?_))
local macro_rules | `(tactic| walk_at "execs nil") => `(tactic| (with_reducible refine wpAny_execs_nil ?_))
local macro_rules | `(tactic| walk_at "execs cons") => `(tactic| (with_reducible refine wpAny_execs_cons ?_))
local macro_rules | `(tactic| walk_at "binaryOp Mod int int") => `(tactic| ((with_reducible refine mod_int' ?b ?_); (case b => first | decide | (simp; done))))
local macro_rules | `(tactic| k_all) => `(tactic| assumption)
local macro_rules | `(tactic| walk_at "eval Constant str") => `(tactic| (with_reducible refine str_at ?_))

theorem stayI {h₀ h₁ h' : Heap} {L : Addr} {n' : List (Addr × Obj)} {I : Addr} {oI : Obj} (a : h₁.get? I = some oI) (N' : News h₀ L h' n') (a' : (I, oI) ∈ n') : ∀ b ∈ [I], ∀ o, h₁.get? b = some o → h'.get? b = some o := by
  intro x hx o e
  rw [List.mem_singleton.mp hx] at e ⊢
  rw [a] at e; cases e
  exact (N' _ a').1
theorem bd2 {x y : Str} (hx : x.length ≤ 1000) (hy : y.length ≤ 1000) : ∀ o ∈ [some x, some y], Bd 1000 o := by
  intro o ho
  rcases List.mem_cons.mp ho with rfl | ho
  · exact hx
  · rw [List.mem_singleton.mp ho]; exact hy
theorem optStr {x : Str} {t : Tok} : OptV (some x) (.str x t) := ⟨t, rfl⟩
theorem run9 {ns : List Int} {x y : Int} {q i : Nat} (hn : ns.length = 9 * q) (hi : i < q) (hx : x = 0 + (i : Int) * 9) (hy : y = x + 9) : ((ns.drop x.toNat).take (min y.toNat ns.length - x.toNat)).length = 9 := by
  rw [List.length_take, List.length_drop]
  omega
local macro_rules | `(tactic| walk_at "call builtin:len") => `(tactic| (k_dflt (refine' len_led ?N ?m ?c ?d ?l ?_; (case N => k_asm); (case m => k_mem); (case c => rfl); (case d => exact ⟨_, rfl⟩); (case l => omega))))
local macro_rules | `(tactic| walk_at "subscriptTail Name Slice ref ref") => `(tactic| ((with_reducible rename Fr _ _ _ _ => kF); (with_reducible rename News _ _ _ _ => kN); k_dflt (refine' slice_ns kF kN (News.isList kN ?l) ?i ?a ?b ?c ?_; (case l => k_mem); (case i => with_reducible assumption); (case a => omega); (case b => omega); (case c => assumption); intro D' h' vs' F' N' i' l')))
local macro_rules | `(tactic| walk_at "call ref") => `(tactic| ((with_reducible rename Fr _ _ _ _ => kF); (with_reducible rename News _ _ _ _ => kN); k_dflt (refine' call_ret kF kN (round_call ?X ?T ?r ?u ?h ?l ?i ?n ?tk) ?_; (case X => exact Frag.In.keeps (by assumption) kF.keep); (case T => exact TopRead.keeps (by assumption) kF.keep); (case r => (simp only [depth_deeper]; omega)); (case u => (simp only [Around.deeper_units]; omega)); (case h => assumption); (case l => exact News.isList kN (by k_mem)); (case i => with_reducible assumption); (case n => exact run9 (by assumption) (by assumption) rfl rfl); (case tk => ((try dsimp only); omega)); intro v' h' tk' ht' P' F' N' k'; subst P'; clear k'; (try dsimp only at ht'))))
local macro_rules | `(tactic| walk_at "call ref") => `(tactic| ((with_reducible rename Fr _ _ _ _ => kF); k_dflt (refine' call_ret kF ?N (table_call ?X ?T ?r) ?_; (case N => k_asm); (case X => exact Frag.In.keeps (by assumption) kF.keep); (case T => exact TopRead.keeps (by assumption) kF.keep); (case r => (simp only [depth_deeper]; omega)); intro v' h' tk' ht' P' F' N' k'; (try dsimp only at ht'); obtain ⟨tabN', tOK', N2', fr'⟩ := TabK.news P' kF N'; clear N' P' k'; rcases tOK' with ⟨hk', e', n'⟩ | ⟨hk', d', o', ks', e', n', lo', hd', hf'⟩; (exact absurd hk' (by decide)); subst e'; subst n'; simp only [List.cons_append, List.nil_append] at N2')))
local macro_rules | `(tactic| walk_at "call ref") => `(tactic| ((with_reducible rename Fr _ _ _ _ => kF); (with_reducible rename News _ _ _ _ => kN); k_dflt (refine' call_ret kF kN (neg_call (kvs := tableK 0) ?X ?T ?r ?h rfl (.inl ?pl) ?ps ?al ?as ?tab ?ts ?sl ?s2 ?kb ?kl ?an ?bp ?bo ?tk) ?_; (case X => exact Frag.In.keeps (by assumption) kF.keep); (case T => exact TopRead.keeps (by assumption) kF.keep); (case r => (simp only [depth_deeper]; omega)); (case h => assumption); (case pl => exact News.isList kN (by k_mem)); (case ps => exact .cons _ _ (.cons _ _ (.cons _ _ .nil))); (case al => exact News.isList kN (by k_mem)); (case as => exact .cons optStr (.cons optStr .nil)); (case an => exact Nat.le_of_ble_eq_true rfl); (case tab => exact .inr ⟨_, rfl, TabAt.ofObj (by assumption) (kN _ (.head _)).1 (by assumption) (by assumption)⟩); (case ts => exact Nat.ne_of_gt (Nat.lt_of_lt_of_le (by decide : 0 < 386) (by ((try dsimp only); omega)))); (case sl => decide); (case s2 => decide); (case kb => exact tableK_len _); (case kl => exact tableK_size _); (case bp => decide); (case bo => exact bd2 (Nat.le_of_ble_eq_true rfl) (Nat.le_of_ble_eq_true rfl)); (case tk => ((try dsimp only); omega)); intro v' h' tk' ht' P' F' N' k'; clear k'; first | ((with_reducible rename Mark1 => kM); obtain ⟨t', e'⟩ := found1V P'; subst e') | ((with_reducible rename Mark2 => kM); obtain ⟨t', e'⟩ := found2V P'; subst e'))))
local macro_rules | `(tactic| walk_at "compareOp Eq str str") => `(tactic| (refine eq_texts ?_))

section
variable {prog : Program} {w : World} {A : Around} {s : Shared} {loose : List Str} {mg mb : Str → Option Value}

theorem law_call {ls : Addr} {vs : List Value} {zs : List Int}
    (X : (hd.heap_39 w.params).In s.heap) (T : TopRead hd.view_39 loose mg mb s.heap) (hr : A.depth + 4 < recursionLimit) (hu : A.units + 80 < cLine) (hh : A.handled = none)
    (hl : s.heap.IsList ls vs.toArray) (hi : IntsAre vs zs) (hb : vs.length ≤ 64) (htk : @LE.le Nat _ 386 s.toks) :
    codeAny (model prog w) A (.call (.ref 63) ⟨[.ref ls], []⟩) (RetK s (fun v _ => v = .bool true)) s := by
  k_dflt (refine' enterM [(Str.ofString "script", .ref ls)] X T ?k6 ?k7 ?k8 ?k9 ?kB ?_ ?c2 ?c3 ?c4 ?c5; (case k6 => k_is); (case k7 => k_is); (case k8 => omega); (case k9 => first | exact BindsTo.of_eq (by rfl) | exact binds_K X rfl (by k_is) rfl (by rfl) (by rfl)); (case kB => exact locs rfl); (case c2 => exact rfl); (case c3 => exact rfl); (case c4 => exact rfl); (case c5 => decide))
  intro L h₁ tk hL ht F
  have N := News.nil (h₀ := s.heap) (L := L) (h := h₁)
  have htk1 : @LE.le Nat _ 386 tk := Nat.le_trans htk ht
  have hvl : vs.length ≤ 100000 := by omega
  -- numbers
  refine wpAny_execs_cons (wpAny_with_toks (n := tk) (Nat.le_refl _) (LCg.Assign_ListComp_U (F₀ := F) rfl (by with_unfolding_all rfl) (by with_unfolding_all rfl) (by decide) (by rfl) (by decide) (by rfl) (by rfl) (by rfl) ?_))
  refine sliceCut (h₀ := s.heap) (L := L) (m := (fun y => List.lookup y [((Str.ofString "script"), Value.ref ls)].reverse)) (news := []) (ks := zs.take (45 : Int).toNat) ?_ ?_
  · k_steps
    all_goals exact ⟨_, _, _, _, rfl, rfl, by assumption, by assumption, by assumption, fun _ h => nomatch h⟩
  rintro D2 vs2 h₂ tk₂ ht₂ F₂ N₂ hi2 _
  dsimp only at ht₂
  have hvs2 : vs2.length ≤ 45 := by
    rw [hi2.length, List.length_take]
    omega
  refine LCg.CompSrc.ledger hh F₂ N₂ (.head _) (by rw [List.size_toArray, sizeLine_eq]; omega) fun g => ?_
  refine rest_any (PY := IsNum) hi2 (.inr ⟨_, .head _, rfl, _, rfl⟩) ?_ ?_
  · intro k t I oI C oC D3 m₂ ys h tk E' hC hm2 F₃ N₃ off hne
    clear N₂ F₂ F N
    k_steps
    refine ld_builtR (by k_asm) (by k_asm) (by k_asm) (by k_is) (by boot_by_name) (by decide) ?_
    k_steps
    all_goals exact ⟨_, _, rfl, by assumption, by assumption, _, _, rfl⟩
  intro ys hyl hys D4 h₃ tk₃ F₃ N₃ hoff htk₃
  dsimp only at htk₃
  clear hoff N₂ F₂ F N
  obtain ⟨ks, hki⟩ := ints_of hys
  have hkl : ks.length ≤ 45 := by rw [← hki.length]; omega
  replace F₃ : Fr s.heap L h₃ (up (fun y => List.lookup y [((Str.ofString "script"), Value.ref ls)].reverse) (Str.ofString "numbers") (.ref D4)) := F₃
  -- numbers filled up
  refine wpAny_execs_cons (cutM (h₀ := s.heap) (L := L) (J := fun m h => ∃ D6 ws, m = (up (up (fun y => List.lookup y [((Str.ofString "script"), Value.ref ls)].reverse) (Str.ofString "numbers") (.ref D4)) (Str.ofString "numbers") (.ref D6)) ∧ IntsAre ws (ks ++ (List.replicate ((-(ys.length : Int)).fmod 9).toNat [(0 : Int)]).flatten) ∧ News s.heap L h [(D6, W.listOf ws.toArray 0)]) ?_ ?_)
  · k_steps
    all_goals exact CutE.intro (by assumption) ⟨_, _, rfl, by assumption, fun p hp => (by assumption : News s.heap L _ _) p (by rw [List.mem_singleton.mp hp]; exact .head _)⟩
  rintro h₄ tk₄ m₄ ht₄ F₄ ⟨D6, ws, rfl, hwi, N₄⟩
  dsimp only at ht₄
  clear F₃ N₃
  have r0 := fmod_lo (-(ys.length : Int)) (b := 9) (by decide)
  have r1 := fmod_hi (-(ys.length : Int)) (b := 9) (by decide)
  have r2 : ((-(ys.length : Int)).fmod 9) = (-(ys.length : Int)) % 9 := Int.fmod_eq_emod_of_nonneg _ (by decide)
  have hyk := hki.length
  have hwl : ws.length = ys.length + ((-(ys.length : Int)).fmod 9).toNat := by rw [hwi.length, hyk]; simp
  obtain ⟨q, hq⟩ : ∃ q : Nat, ws.length = 9 * q := ⟨ws.length / 9, by omega⟩
  have hq6 : q ≤ 6 := by omega
  have hw100 : ws.length ≤ 100000 := by omega
  generalize hns : ks ++ (List.replicate ((-(ys.length : Int)).fmod 9).toNat [(0 : Int)]).flatten = ns at hwi
  have hnl : ns.length = 9 * q := by rw [← hwi.length, hq]
  clear hns r0 r1 r2 hwl
  -- the rounds
  have hrs : Builtin.Range.rangeSize 0 (ws.length : Int) 9 = (q : Int) := by
    rw [hq]
    unfold Builtin.Range.rangeSize
    split <;> (try split) <;> omega
  refine wpAny_execs_cons (forRangeM (a := 0) (b := (ws.length : Int)) (c := 9) (n := q) (h₀ := s.heap) hh rfl (by rfl) ?_ hrs ?_)
  · exact small_of (by omega) (by omega) (by omega) (by omega) (by omega) (by omega) (by rw [hrs]; omega) (by rw [hrs]; omega)
  refine rangeCut (a := 0) (b := (ws.length : Int)) (c := 9) (h₀ := s.heap) (L := L) (news := [(D6, W.listOf ws.toArray 0)]) (m := (up (up (fun y => List.lookup y [((Str.ofString "script"), Value.ref ls)].reverse) (Str.ofString "numbers") (.ref D4)) (Str.ofString "numbers") (.ref D6))) ?_ ?_
  · k_steps
    all_goals exact ⟨_, _, _, _, _, _, rfl, rfl, by assumption, by assumption, by assumption⟩
  rintro r t' u' v' h₅ tk₅ ht₅ hR F₅ N₅
  dsimp only at ht₅
  clear F₄ N₄
  have hLI : L < h₅.objs.size := F₅.ns.lt
  have hI0 : s.heap.get? h₅.objs.size = none := Heap.get?_none_of_le (Nat.le_trans hL (Nat.le_of_lt hLI))
  have ltI : D6 < h₅.objs.size := Heap.lt_size (N₅ _ (.head _)).1
  refine ⟨r, t', u', v', (up (up (fun y => List.lookup y [((Str.ofString "script"), Value.ref ls)].reverse) (Str.ofString "numbers") (.ref D4)) (Str.ofString "numbers") (.ref D6)), fun i m h => (∀ z, z ≠ (Str.ofString "start") → m z = (up (up (fun y => List.lookup y [((Str.ofString "script"), Value.ref ls)].reverse) (Str.ofString "numbers") (.ref D4)) (Str.ofString "numbers") (.ref D6)) z) ∧ News s.heap L h [(D6, W.listOf ws.toArray 0)], rfl, hR, F₅, ?_, ?_, ?_, ?_⟩
  · intro h' hk'
    exact ⟨fun _ _ => rfl, fun p hp => ⟨hk' _ _ (N₅ p hp).1, (N₅ p hp).2⟩⟩
  · rintro i m h h' ⟨a, b⟩ hk'
    refine ⟨a, fun p hp => ⟨hk' _ _ ?_ (b p hp).1, (b p hp).2⟩⟩
    have e := List.mem_singleton.mp hp
    simp only [List.mem_cons, List.not_mem_nil, or_false, not_or]
    refine ⟨(b p hp).2.1, ?_⟩
    rw [e]; exact Nat.ne_of_lt ltI
  · rintro i tp m₁ h₆ tk₆ hiq ⟨hmeq, N₆⟩ F₆ ⟨oI, hoI, _, _⟩ htk₆
    dsimp only at hoI htk₆
    replace F₆ : Fr s.heap L h₆ (up (up (up (fun y => List.lookup y [((Str.ofString "script"), Value.ref ls)].reverse) (Str.ofString "numbers") (.ref D4)) (Str.ofString "numbers") (.ref D6)) (Str.ofString "start") (.int (0 + (i : Int) * 9) tp)) := frSame F₆ hmeq
    have N₇ : News s.heap L h₆ [(h₅.objs.size, oI), (D6, W.listOf ws.toArray 0)] := fun p hp => by
      rcases List.mem_cons.mp hp with h | hp
      · rw [h]; exact ⟨hoI, Nat.ne_of_gt hLI, hI0⟩
      · exact N₆ p hp
    have fin : ∀ z, z ≠ (Str.ofString "start") → (up (up (up (fun y => List.lookup y [((Str.ofString "script"), Value.ref ls)].reverse) (Str.ofString "numbers") (.ref D4)) (Str.ofString "numbers") (.ref D6)) (Str.ofString "start") (.int (0 + (i : Int) * 9) tp)) z = (up (up (fun y => List.lookup y [((Str.ofString "script"), Value.ref ls)].reverse) (Str.ofString "numbers") (.ref D4)) (Str.ofString "numbers") (.ref D6)) z := fun z hz => by simp [hz]
    clear N₆ N₅ F₅
    k_steps
    all_goals exact turnNext (by assumption) (stayI hoI (by assumption) (by k_mem)) ⟨fin, fun p hp => (by assumption : News s.heap L _ _) p (by rw [List.mem_singleton.mp hp]; k_mem)⟩
  intro h₇ tk₇ m₇ F₇ ⟨hmeq, N₇⟩ ht₇
  dsimp only at ht₇
  replace F₇ : Fr s.heap L h₇ (fun y => if y = (Str.ofString "start") then m₇ (Str.ofString "start") else (up (up (fun y => List.lookup y [((Str.ofString "script"), Value.ref ls)].reverse) (Str.ofString "numbers") (.ref D4)) (Str.ofString "numbers") (.ref D6)) y) := frBack F₇ hmeq
  generalize m₇ (Str.ofString "start") = va at F₇
  clear hmeq N₅ F₅
  have hT0 : @LE.le Nat _ 386 tk₇ := by omega
  refine wpAny_execs_cons (cutM (h₀ := s.heap) (L := L) (J := fun m h => ∃ tf, m = (up (fun y => if y = (Str.ofString "start") then va else (up (up (fun y => List.lookup y [((Str.ofString "script"), Value.ref ls)].reverse) (Str.ofString "numbers") (.ref D4)) (Str.ofString "numbers") (.ref D6)) y) (Str.ofString "found") (.str (Str.ofString "zh") tf))) ?_ ?_)
  · have fm : Mark1 := trivial
    k_steps
    all_goals exact CutE.intro (by assumption) ⟨_, rfl⟩
  rintro h₈ tk₈ m₈ ht₈ F₈ ⟨tf, rfl⟩
  dsimp only at ht₈
  have N₈ := News.nil (h₀ := s.heap) (L := L) (h := h₈)
  clear F₇ N₇
  have fm : Mark2 := trivial
  k_steps
  all_goals exact RetK.intro (by assumption) rfl
end
end Mine

end

section
open PySem PySem.W PySem.W.X PySem.W.ZRun PyProof.Rows
namespace Mine
theorem inOf {K : Frag} {h : Heap} (X : K.In h) : ∀ {K' : Frag}, (K'.all fun p => K'.length == K'.length) = true → (∀ p ∈ K', K.lookup p.1 = some p.2) → K'.In h := by
  intro K' _ hK a o ho
  have : (a, o) ∈ K' := by
    clear hK
    induction K' with
    | nil => cases ho
    | cons p r ih =>
      obtain ⟨b, q⟩ := p
      rw [List.lookup_cons] at ho
      by_cases e : (a == b) = true
      · rw [e] at ho
        have e' : a = b := by simpa using e
        cases ho
        rw [e']; exact .head _
      · rw [Bool.eq_false_iff.mpr e] at ho
        exact .tail _ (ih (by simp) ho)
  exact X a o (hK _ this)
end Mine
end

open PySem PySem.W PySem.W.X PySem.W.ZRun PyProof.Rows Mine
theorem PySem.Challenge.cw_ez5001_01_holds : PySem.Challenge.rw_ez5001_01.Holds := by
  w_on
  o_law
  z_head
  (case hw => w_witness2)
  k_fill
  intro w s₀ s₁ mg mb G y fa o pm cd doc dV kV ho hd0 hcd hD hmg hg args vals as L hpre hlay hrd hwl hlo
  z_open y L KX ZH ZN ZT
  refine Ground.open G ?_
  intro T B D TE TW
  wrow_args hpre hlay hrd hwl hlo
  obtain ⟨hat, hsz⟩ := script_at L
  have htk := script_toks L ZT
  rw [ZN] at hat hsz
  subst hat
  have X : (hd.heap_39 w.params).In s₁.heap := by
    refine inOf KX (by simp) ?_
    unfold hd.heap_39
    repeat' (first | refine List.forall_mem_cons.mpr ⟨?_, ?_⟩ | exact List.forall_mem_nil _)
    all_goals rfl
  have TR := topRead_of T
  have TR2 : TopRead hd.view_39 (looseW hd.view_39 ["LOCALE_ALIASES", "negotiate_locale"]) mg mb s₁.heap := TR
  x_fa T KX hmg
  all_lens
  refine wpAny_call (codeAny_mono (law_call X TR2 (by decide) (by decide) rfl (by assumption) (by assumption) (by omega) htk) ?_)
  rintro r s' ⟨v, h', tk, rfl, rfl, hk, rfl⟩
  refine GoodW.toG ⟨.inl ⟨_, _, _, rfl, raisesW_false ?_, .bool _, ?_, unshared_nil⟩, hk, rfl, L.gens⟩
  · wrow_none_raised
  · wrow_post
