import PyProof.Rows.All
import Wide.All
import OpenK.AllK
import Wide.FinOn
import Lean
import PySem.Challenge.RW_of0004_01
set_option Elab.async false
set_option linter.all false
section
open PySem PySem.W PyProof.Rows PySem.SeqAt
set_option maxRecDepth 100000
set_option maxHeartbeats 4000000
namespace Mine
/-- every object of h stands in h' as it was -/
abbrev Kp (h h' : Heap) : Prop := ∀ b o, h.get? b = some o → h'.get? b = some o
theorem Kp.refl (h : Heap) : Kp h h := fun _ _ e => e
theorem Kp.trans {h h' h'' : Heap} (x : Kp h h') (y : Kp h' h'') : Kp h h'' := fun b o e => y b o (x b o e)
theorem Kp.push (h : Heap) (o : Obj) : Kp h (h.push o) := fun _ _ e => Heap.get?_push_of_some _ e
/-- what is asked of the surroundings: room for n more frames -/
structure AOk (n : Nat) (A : Around) : Prop where
  hh : A.handled = none
  hd : A.depth + n < recursionLimit
  hu : A.units + 80 + 4 * n < cLine
theorem AOk.deeper {n : Nat} {A : Around} (x : AOk (n + 1) A) (env : Env) : AOk n (A.deeper env) :=
  ⟨x.hh, by have := x.hd; show A.depth + 1 + n < _; omega, by have := x.hu; show A.units + 3 + 80 + 4 * n < _; omega⟩
theorem AOk.less {n m : Nat} {A : Around} (x : AOk n A) (h : m ≤ n) : AOk m A := ⟨x.hh, by have := x.hd; omega, by have := x.hu; omega⟩

/-- a kind of value that the text compares by == -/
structure Kind (D : Type) [DecidableEq D] where
  Is : Heap → Value → D → Prop
  mono : ∀ {h h' v d}, Kp h h' → Is h v d → Is h' v d
  det : ∀ {h v d d'}, Is h v d → Is h v d' → d = d'
  eq : ∀ {A : Around} {s : Shared} {x y d d'}, A.units + 66 < cLine → Is s.heap x d → Is s.heap y d' → EqAt A s x y (decide (d = d'))

def kInt : Kind Int where
  Is := fun _ v n => ∃ t, v = .int n t
  mono := fun _ x => x
  det := fun ⟨_, e⟩ ⟨_, e'⟩ => by rw [e] at e'; injection e'
  eq := by
    rintro A s x y d d' _ ⟨t, rfl⟩ ⟨u, rfl⟩
    exact EqAt.int_int d t d' u

/-- a list of ints -/
def RowAt (h : Heap) (v : Value) (ns : List Int) : Prop := ∃ a vs, v = .ref a ∧ h.PlainList a vs.toArray ∧ IntsAre vs ns
theorem IntsAre.det : ∀ {vs : List Value} {ns ms : List Int}, IntsAre vs ns → IntsAre vs ms → ns = ms
  | _, _, _, .nil, .nil => rfl
  | _, _, _, .cons n t r, .cons _ _ r' => by rw [IntsAre.det r r']
theorem isList_det {h : Heap} {a : Addr} {x y : Array Value} (p : h.IsList a x) (q : h.IsList a y) : x = y := by
  obtain ⟨o, ho, _, n, hd⟩ := p
  obtain ⟨o', ho', _, n', hd'⟩ := q
  rw [ho] at ho'; cases ho'
  rw [hd] at hd'; injection hd'
theorem RowAt.mono {h h' : Heap} {v : Value} {ns : List Int} (k : Kp h h') : RowAt h v ns → RowAt h' v ns
  | ⟨a, vs, e, hl, hi⟩ => ⟨a, vs, e, hl.at fun o x => k _ o x, hi⟩
theorem RowAt.det {h : Heap} {v : Value} {ns ms : List Int} (x : RowAt h v ns) (y : RowAt h v ms) : ns = ms := by
  obtain ⟨a, vs, rfl, hl, hi⟩ := x
  obtain ⟨b, us, e, hl', hi'⟩ := y
  injection e with e; subst e
  have := isList_det hl.isList hl'.isList
  have : vs = us := by simpa using this
  subst this
  exact IntsAre.det hi hi'
theorem RowAt.eqAt {A : Around} {s : Shared} {x y : Value} {ns ms : List Int} (hu : A.units + 66 < cLine) (p : RowAt s.heap x ns) (q : RowAt s.heap y ms) : EqAt A s x y (decide (ns = ms)) := by
  obtain ⟨a, vs, rfl, hl, hi⟩ := id p
  obtain ⟨b, us, rfl, hl', hi'⟩ := id q
  by_cases hab : a = b
  · subst hab
    rw [RowAt.det p q, decide_eq_true rfl]
    exact EqAt.same _
  · exact EqAt.of_refs hab fun prog w E Q h => eq_intsK hl.isList hi hl'.isList hi' (by omega) h
def kRow : Kind (List Int) where
  Is := RowAt
  mono := RowAt.mono
  det := RowAt.det
  eq := RowAt.eqAt

theorem snocInd {α : Type} {P : List α → Prop} (h0 : P []) (h1 : ∀ l a, P l → P (l ++ [a])) (l : List α) : P l := by
  rw [← List.reverse_reverse l]
  induction l.reverse with
  | nil => exact h0
  | cons a r ih => rw [List.reverse_cons]; exact h1 _ _ ih
/-- the first of each -/
def dd {α D : Type} [DecidableEq D] (ps : List (α × D)) : List (α × D) := ps.foldl (fun acc p => if acc.any (fun q => decide (q.2 = p.2)) then acc else acc ++ [p]) []
theorem dd_snoc {α D : Type} [DecidableEq D] (ps : List (α × D)) (p : α × D) : dd (ps ++ [p]) = if (dd ps).any (fun q => decide (q.2 = p.2)) then dd ps else dd ps ++ [p] := by
  unfold dd; rw [List.foldl_append]; rfl
theorem mem_dd {α D : Type} [DecidableEq D] : ∀ (ps : List (α × D)) q, q ∈ dd ps → q ∈ ps := by
  refine snocInd (fun q h => h) fun ps p ih q h => ?_
  rw [dd_snoc] at h
  split at h
  · exact List.mem_append.mpr (.inl (ih q h))
  · rcases List.mem_append.mp h with h | h
    · exact List.mem_append.mpr (.inl (ih q h))
    · exact List.mem_append.mpr (.inr h)
theorem dd_length {α D : Type} [DecidableEq D] : ∀ (ps : List (α × D)), (dd ps).length ≤ ps.length := by
  refine snocInd (Nat.le_refl _) fun ps p ih => ?_
  rw [dd_snoc]
  split
  · rw [List.length_append]; omega
  · rw [List.length_append, List.length_append]; omega
theorem dd_map {α β D : Type} [DecidableEq D] (f : α → β) : ∀ (ps : List (α × D)), dd (ps.map fun p => (f p.1, p.2)) = (dd ps).map fun p => (f p.1, p.2) := by
  refine snocInd rfl fun ps p ih => ?_
  rw [List.map_append, List.map_cons, List.map_nil, dd_snoc, dd_snoc, ih, List.any_map]
  have e : ((fun q : β × D => decide (q.2 = p.2)) ∘ fun p : α × D => (f p.1, p.2)) = fun q => decide (q.2 = p.2) := rfl
  rw [e]
  split <;> simp
end Mine
end
section
open PySem PySem.W PyProof.Rows PySem.SeqAt
set_option maxRecDepth 100000
set_option maxHeartbeats 4000000
namespace Mine
/-- a state with another heap and another count of tokens -/
def st (s : Shared) (h : Heap) (t : Nat) : Shared := { s with heap := h, toks := t }
theorem none_of_size {h : Heap} : h.get? h.objs.size = none := by
  cases e : h.get? h.objs.size with
  | none => rfl
  | some o' => exact absurd (Heap.lt_size e) (Nat.lt_irrefl _)
theorem ne_of_none {h : Heap} {a b : Addr} {o : Obj} (x : h.get? a = some o) (y : h.get? b = none) : a ≠ b := fun e => by rw [e, y] at x; cases x
theorem none_of_kp {h h' : Heap} {a : Addr} (k : Kp h h') (y : h'.get? a = none) : h.get? a = none := by
  cases e : h.get? a with
  | none => rfl
  | some o => rw [k _ _ e] at y; cases y
/-- all but what S names stands as it was -/
abbrev KpB (S : List Addr) (h h' : Heap) : Prop := ∀ b o, b ∉ S → h.get? b = some o → h'.get? b = some o
theorem KpB.of {S : List Addr} {h h' : Heap} (k : Kp h h') : KpB S h h' := fun b o _ e => k b o e
theorem KpB.trans {S : List Addr} {h h' h'' : Heap} (x : KpB S h h') (y : KpB S h' h'') : KpB S h h'' := fun b o n e => y b o n (x b o n e)
theorem KpB.more {S S' : List Addr} {h h' : Heap} (x : KpB S h h') (hs : ∀ b ∈ S, b ∈ S') : KpB S' h h' := fun b o n e => x b o (fun m => n (hs b m)) e
theorem KpB.same {a : Addr} {h h' : Heap} (x : Heap.SameBut a h h') : KpB [a] h h' := fun b o n e => x.extBut b o (fun q => n (by rw [q]; exact List.mem_singleton.mpr rfl)) e
/-- what was changed was new -/
theorem KpB.kp {S : List Addr} {h₀ h h' : Heap} (k : Kp h₀ h) (x : KpB S h h') (hS : ∀ b ∈ S, h₀.get? b = none) : Kp h₀ h' := fun b o e => x b o (fun m => by rw [hS b m] at e; cases e) (k b o e)
theorem isList_kp {h h' : Heap} {a : Addr} {vs : Array Value} (k : Kp h h') (x : h.IsList a vs) : h'.IsList a vs := x.at fun o e => k _ o e
theorem plain_kp {h h' : Heap} {a : Addr} {vs : Array Value} (k : Kp h h') (x : h.PlainList a vs) : h'.PlainList a vs := x.at fun o e => k _ o e
theorem plain_b {S : List Addr} {h h' : Heap} {a : Addr} {vs : Array Value} (k : KpB S h h') (hn : a ∉ S) (x : h.PlainList a vs) : h'.PlainList a vs := x.at fun o e => k _ o hn e
theorem ns_b {S : List Addr} {h h' : Heap} {a : Addr} {m : Str → Option Value} (k : KpB S h h') (hn : a ∉ S) (x : h.Ns a m) : h'.Ns a m := x.at' fun o e => k _ o hn e
theorem plainL_of {h : Heap} {a : Addr} {vs : Array Value} (x : h.PlainList a vs) : PlainL h a vs := let ⟨n, e⟩ := x; ⟨_, n, e, rfl, rfl, rfl⟩

structure DP where
  params : Arguments
  body : List Stmt
  scope : Scope
def dpOf : Stmt → DP
  | .FunctionDef _ a b _ _ _ s _ _ _ => ⟨a, b, s⟩
  | _ => ⟨⟨[], [], none, [], [], none, []⟩, [], default⟩
def dpAt (i : Nat) : DP := dpOf (Challenge.pw_of0004_01.main.body.getD i (.Pass default))
/-- what a def's function object holds -/
abbrev fdOf (nm : Str) (d : DP) (dV doc pm cd : Value) : FuncData :=
  { name := nm, qualname := nm, params := d.params, body := .stmts d.body, scope := d.scope, globals := mainGlobals, closure := [], defaults := dV, kwdefaults := .none, doc := doc, pyModule := pm, annotations := none, code := cd, closureTuple := .none, builtins := builtinsNs }
/-- the def stands at f -/
def DefAt (h : Heap) (f : Addr) (nm : Str) (d : DP) (dV : Value) : Prop :=
  ∃ o doc pm cd, h.get? f = some o ∧ o.data = .func (fdOf nm d dV doc pm cd) ∧ h.CodeRec cd nm
theorem DefAt.mono {h h' : Heap} {f : Addr} {nm : Str} {d : DP} {dV : Value} (k : Kp h h') : DefAt h f nm d dV → DefAt h' f nm d dV
  | ⟨o, doc, pm, cd, e, e', c⟩ => ⟨o, doc, pm, cd, k _ _ e, e', c.keeps k⟩

section
variable {prog : Program} {w : World} {M : Model} {A : Around} {E : Value → Shared → Prop} {R : Result → Shared → Prop} {s : Shared} {h : Heap} {t : Nat} {env : Env}
/-- a call of a def without cells that ends by a value -/
theorem call_def {f : Addr} {nm : Str} {d : DP} {dV : Value} {args : List Value} {binds : List (Str × Value)} {Q : Value → Shared → Prop}
    (hA : AOk 1 A) (hlim : h.NoLimit) (hf : DefAt h f nm d dV)
    (hbind : ∀ doc pm cd, BindsTo (st s h t) (fdOf nm d dV doc pm cd) ⟨args, []⟩ binds)
    (q : ∀ doc pm cd L h₀ tk, Kp h h₀ → h.get? L = none → h₀.Ns L (fun x => binds.reverse.lookup x) →
      wpAny (model prog w) (A.deeper (callEnv (fdOf nm d dV doc pm cd) L f)) (execs d.body (callEnv (fdOf nm d dV doc pm cd) L f))
        (fun fl s' => match fl with | .ret v => Q v s' | _ => Q .none s') (fun _ _ => False) (st s h₀ tk))
    (hcell : ∀ x ∈ d.scope.names, x.2 ≠ .cell := by decide) (hloc : ∀ x ∈ binds, d.scope.names.lookup x.1 = some .local := by exact locs rfl)
    (hco : d.scope.isCoroutine = false := by rfl) (hgen : d.scope.isGenerator = false := by rfl) (hk : d.scope.kind = .function := by rfl) :
    wpAny (model prog w) A (call (.ref f) args) Q E (st s h t) := by
  obtain ⟨o, doc, pm, cd, ho, hd, hc⟩ := hf
  refine wpAny_call (codeAny_call_def (s := st s h t) (by have := hA.hd; omega) ho hd hlim hc rfl (hbind doc pm cd) hcell hloc (fun h₀ hns hkp => ?_) hco hgen hk)
  refine wpAny_mono (q doc pm cd _ h₀ _ hkp none_of_size hns) (fun fl s' q => ?_) (fun _ _ x => x.elim)
  cases fl <;> exact q

theorem ev_local {L : Addr} {x : Str} {pos : Pos} {m : Str → Option Value} {v : Value} {Q : Value → Shared → Prop} (n : h.Ns L m) (hv : m x = some v) (q : Q v (st s h t))
    (hL : env.locals = L := by rfl) (hk : env.scope.kind = .function := by rfl) (hl : env.kindOf x = some .local := by rfl) (hd : (x == ("__debug__" : Str)) = false := by decide) :
    wpAny M A (eval (.Name x pos) env) Q E (st s h t) := wpAny_Name (wpAny_loadName_local (s := st s h t) hk hl (hL ▸ n) hv q) hd
theorem st_local {L : Addr} {x : Str} {m : Str → Option Value} {v : Value} {Q : Unit → Shared → Prop} (n : h.Ns L m)
    (q : ∀ h', h'.Ns L (fun y => if y = x then some v else m y) → Heap.SameBut L h h' → Q () (st s h' (t + 1)))
    (hL : env.locals = L := by rfl) (hl : env.kindOf x = some .local := by rfl) (hp : (env.scope.kind == .class || (env.scope.kind == .module && env.locals != env.globals)) = false := by rfl) :
    wpAny M A (storeName env x v) Q E (st s h t) := by subst hL; exact wpAny_storeName_local (s := st s h t) hl n q hp
theorem ev_newList {vs : List Value} {Q : Value → Shared → Prop} (q : ∀ r h', Kp h h' → h.get? r = none → h'.PlainList r vs.toArray → Q (.ref r) (st s h' t)) (hsz : vs.length ≤ sizeLine := by size_fits) :
    wpAny M A (newList vs) Q E (st s h t) :=
  wpAny_newObj_type (s := st s h t) (q _ _ (Kp.push _ _) none_of_size ⟨0, Heap.get?_push_size _ rfl⟩) (by show vs.toArray.size ≤ sizeLine; rw [List.size_toArray]; exact hsz)
theorem it_list {a : Addr} {vs : Array Value} {Q : Value → Shared → Prop} (hl : h.IsList a vs) (q : ∀ I h', Kp h h' → h.get? I = none → h'.IsListIter I a 0 → Q (.ref I) (st s h' t)) :
    wpAny (model prog w) A (pyIter (.ref a)) Q E (st s h t) :=
  wpAny_pyIter_list (s := st s h t) hl (q _ _ (Kp.push _ _) none_of_size ⟨_, Heap.get?_push_size _ rfl, rfl, rfl⟩)
theorem not_in {l : Addr} {items : List Value} {x : Value} {Q : Value → Shared → Prop} (e : Value → Bool) (hl : h.IsList l items.toArray) (he : ∀ y, y ∈ items → EqAt A.in1 (st s h t) y x (e y))
    (q : Q (.bool (!items.any e)) (st s h t)) : wpAny (model prog w) A (compareOp .NotIn x (.ref l)) Q E (st s h t) :=
  notIn_listAt (s := st s h t) e hl (fun y hy => he y (by simpa using hy)) (by simpa using q)
theorem for_walk {I : Addr} {fp wr : List Addr} {n k : Nat} {P : Nat → Value → Prop} {St : Nat → Heap → Prop} {target : Expr} {body : List Stmt}
    (W : Walks prog w A I fp wr n P St) (S : List Addr) (hS : ∀ b ∈ S, b ∉ fp) (J : Nat → Heap → Prop)
    (Jf : ∀ i h h', J i h → (∀ b ∈ S, ∀ o, h.get? b = some o → h'.get? b = some o) → J i h')
    (st0 : St k h) (j0 : J k h) (hk : k ≤ n)
    (turn : ∀ i v h₁ tk, k ≤ i → i < n → P i v → KpB (S ++ wr) h h₁ → J i h₁ →
      wpAny (model prog w) A (assign target env v) (fun _ s₂ => wpAny (model prog w) A (execs body env) (fun fl s₃ => match fl with
          | .next | .cont => ∃ h' tk', s₃ = st s h' tk' ∧ KpB S h₁ h' ∧ J (i + 1) h'
          | .brk => R (.ok .next) s₃
          | .ret v => R (.ok (.ret v)) s₃) (notedBy (model prog w) A env fun e s' => R (.error e) s') s₂) (notedBy (model prog w) A env fun e s' => R (.error e) s') (st s h₁ tk))
    (done : ∀ h₁ tk, KpB (S ++ wr) h h₁ → J n h₁ → R (.ok .next) (st s h₁ tk))
    (ht : ∀ v, letOwnedTupleGo target (.ref I) v = pure () := by intro _; rfl) :
    codeAny (model prog w) A (.forLoop target (.ref I) body [] env) R (st s h t) := by
  refine codeAny_forLoop (fun c s' => ∃ i h₁ tk, s' = st s h₁ tk ∧ k ≤ i ∧ i ≤ n ∧ c = n + 1 - i ∧ St i h₁ ∧ J i h₁ ∧ KpB (S ++ wr) h h₁) ?_ (n + 1 - k)
    ⟨k, h, t, rfl, Nat.le_refl _, hk, rfl, st0, j0, KpB.of (Kp.refl _)⟩ ht
  rintro c s' ⟨i, h₀, tk, rfl, hki, hin, rfl, sti, ji, kb⟩
  have wrS : ∀ b ∈ S, b ∉ wr := fun b hb hw => hS b hb (W.sub b hw)
  by_cases hlt : i < n
  · refine W.item i (st s h₀ tk) _ _ hlt sti fun v h₁ tk₁ hP st₁ hk₁ => ?_
    have j1 : J i h₁ := Jf i h₀ h₁ ji fun b hb o e => hk₁ b o (wrS b hb) e
    have kb1 : KpB (S ++ wr) h h₁ := fun b o hb e => hk₁ b o (fun q => hb (List.mem_append.mpr (.inr q))) (kb b o hb e)
    refine wpAny_mono (turn i v h₁ tk₁ hki hlt hP kb1 j1) (fun _ s₂ q => wpAny_mono q (fun fl s₃ q => ?_) fun _ _ e => e) fun _ _ e => e
    have fin : (∃ h' tk', s₃ = st s h' tk' ∧ KpB S h₁ h' ∧ J (i + 1) h') → ∃ m, m < n + 1 - i ∧ ∃ i h₁ tk, s₃ = st s h₁ tk ∧ k ≤ i ∧ i ≤ n ∧ m = n + 1 - i ∧ St i h₁ ∧ J i h₁ ∧ KpB (S ++ wr) h h₁ := by
      rintro ⟨h', tk', e, kq, jq⟩
      exact ⟨n + 1 - (i + 1), by omega, i + 1, h', tk', e, by omega, hlt, rfl, W.frame _ _ _ st₁ fun b hb o e => kq b o (fun m => hS b m hb) e, jq, fun b o hb e => kq b o (fun q => hb (List.mem_append.mpr (.inl q))) (kb1 b o hb e)⟩
    cases fl with
    | next => exact fin q
    | cont => exact fin q
    | brk => exact q
    | ret v => exact q
  · have hin' : i = n := by omega
    subst hin'
    refine W.done (st s h₀ tk) _ _ sti fun h₁ tk₁ hk₁ => wpAny_execs_nil ?_
    exact done h₁ tk₁ (fun b o hb e => hk₁ b o (fun q => hb (List.mem_append.mpr (.inr q))) (kb b o hb e)) (Jf i h₀ h₁ ji fun b hb o e => hk₁ b o (wrS b hb) e)
theorem append_call {o elt : Expr} {apos pos : Pos} {Q : Value → Shared → Prop}
    (q : wpAny (model prog w) A (eval o env) (fun ov s₁ => ∃ D its, ov = .ref D ∧ PlainL s₁.heap D its ∧
      wpAny (model prog w) A (eval elt env) (fun y s₂ => wpAny (model prog w) A (call (.builtin "list.append") [.ref D, y]) Q E s₂) E s₁) E (st s h t))
    (hbase : attributeBase o "append" env (eval o env) = eval o env := by rfl)
    (hfew : ((backTo pos (starEach [elt] env)).all (fun x => !x.1) && (backToKw pos (keywordEach [] env)).all (fun x => x.1.isSome)
      && decide (([elt] : List Expr).length + ([] : List Keyword).length + (if ([] : List Keyword).isEmpty then 0 else 1) < 30)) = true := by rfl)
    (hline : (apos.endLine == pos.line) = true := by rfl)
    (htrees : backTo pos (starEach [elt] env) = [(false, eval elt env)] := by rfl) :
    wpAny (model prog w) A (eval (.Call (.Attribute o "append" apos) [elt] [] pos) env) Q E (st s h t) := wpAny_Call_append hbase hfew hline htrees q
theorem do_append {l : Addr} {its : List Value} {x : Value} {Q : Value → Shared → Prop} (hl : h.PlainList l its.toArray)
    (q : ∀ h', h'.PlainList l (its ++ [x]).toArray → Heap.SameBut l h h' → Q .none (st s h' t)) (hsz : its.length ≤ 1000000) :
    wpAny (model prog w) A (call (.builtin "list.append") [.ref l, x]) Q E (st s h t) := by
  have hz : sizeLine = 16777216 := rfl
  exact wpAny_list_append_plain (s := st s h t) hl (fun h' hl' hs => q h' (by simpa using hl') hs) (by rw [List.size_toArray]; omega)
theorem iter_ne {I a : Addr} {h : Heap} {vs : Array Value} (hl : h.IsList a vs) (hI : h.get? I = none) : a ≠ I := let ⟨_, ho, _⟩ := hl; ne_of_none ho hI
theorem ns_ne {I L : Addr} {h : Heap} {m : Str → Option Value} (n : h.Ns L m) (hI : h.get? I = none) : L ≠ I := let ⟨_, _, _, ho, _⟩ := n; ne_of_none ho hI
theorem plain_ne {I a : Addr} {h : Heap} {vs : Array Value} (hl : h.PlainList a vs) (hI : h.get? I = none) : a ≠ I := let ⟨_, ho⟩ := hl; ne_of_none ho hI
/-- for x in a list -/
theorem for_list {a : Addr} {vs : List Value} {x : Str} {px pos : Pos} {iter : Expr} {body : List Stmt} {Q : Flow → Shared → Prop}
    (hA : A.handled = none) (S : List Addr) (J : Nat → Heap → Prop)
    (Jf : ∀ i h h', J i h → (∀ b ∈ S, ∀ o, h.get? b = some o → h'.get? b = some o) → J i h')
    (hiter : ∀ {Q' : Value → Shared → Prop}, Q' (.ref a) (st s h t) → wpAny (model prog w) A (eval iter env) Q' E (st s h t))
    (hl : h.IsList a vs.toArray) (haS : a ∉ S) (hS : ∀ b ∈ S, ∃ o, h.get? b = some o) (j0 : J 0 h)
    (turn : ∀ i v h₁ tk E', vs[i]? = some v → KpB S h h₁ → J i h₁ →
      wpAny (model prog w) A (assign (.Name x px) env v) (fun _ s₂ => wpAny (model prog w) A (execs body env) (fun fl s₃ => match fl with
          | .next | .cont => ∃ h' tk', s₃ = st s h' tk' ∧ KpB S h₁ h' ∧ J (i + 1) h'
          | .brk => Q .next s₃
          | .ret v => Q (.ret v) s₃) E' s₂) E' (st s h₁ tk))
    (done : ∀ h₁ tk, KpB S h h₁ → J vs.length h₁ → Q .next (st s h₁ tk))
    (hs : ∀ x, foldedSetIterable iter env x = pure x := by intro _; rfl) :
    wpAny (model prog w) A (exec (.For (.Name x px) iter body [] pos) env) Q E (st s h t) := by
  refine wpAny_For (hiter (it_list hl fun I h' k hI hit => ?_)) hs
  have hSI : ∀ b ∈ S, b ≠ I := fun b hb => let ⟨o, ho⟩ := hS b hb; ne_of_none ho hI
  refine for_walk (Walks.list hA I a (iter_ne hl hI) vs.toArray) S (fun b hb hm => ?_) J Jf (k := 0) ⟨hit, isList_kp k hl⟩ (Jf 0 h h' j0 fun b _ o e => k b o e) (Nat.zero_le _) ?_ ?_
  · rcases List.mem_cons.mp hm with e | hm
    · exact hSI b hb e
    · exact haS (List.mem_singleton.mp hm ▸ hb)
  · intro i v h₁ tk _ _ hv kb j
    exact turn i v h₁ tk _ (by simpa using hv) (fun b o hb e => kb b o (fun q => (List.mem_append.mp q).elim hb fun q => (ne_of_none e hI) (List.mem_singleton.mp q)) (k b o e)) j
  · intro h₁ tk kb j
    refine done h₁ tk (fun b o hb e => kb b o (fun q => (List.mem_append.mp q).elim hb fun q => (ne_of_none e hI) (List.mem_singleton.mp q)) (k b o e)) ?_
    simpa using j
end
/-- does y hold d -/
noncomputable def eqTo {D : Type} [DecidableEq D] (K : Kind D) (h : Heap) (d : D) (y : Value) : Bool := @decide (K.Is h y d) (Classical.propDecidable _)
theorem eqTo_is {D : Type} [DecidableEq D] {K : Kind D} {h : Heap} {d d' : D} {y : Value} (x : K.Is h y d') : eqTo K h d y = decide (d' = d) := by
  unfold eqTo
  by_cases e : d' = d
  · rw [decide_eq_true e]; exact @decide_eq_true _ (Classical.propDecidable _) (e ▸ x)
  · rw [decide_eq_false e]; exact @decide_eq_false _ (Classical.propDecidable _) fun z => e (K.det x z)
theorem any_congr {α : Type} {l : List α} {p q : α → Bool} (h : ∀ x ∈ l, p x = q x) : l.any p = l.any q := by
  induction l with
  | nil => rfl
  | cons a r ih => rw [List.any_cons, List.any_cons, h a (.head _), ih fun x hx => h x (.tail _ hx)]
section
variable {prog : Program} {w : World} {A : Around} {E : Value → Shared → Prop} {s : Shared} {h : Heap} {t : Nat}
theorem dedup_spec {D : Type} [DecidableEq D] (K : Kind D) {a : Addr} {ps : List (Value × D)} {Q : Value → Shared → Prop}
    (hA : AOk 2 A) (hlim : h.NoLimit) (hf : DefAt h 21 (Str.ofString "_deduplicate_unhashable") (dpAt 1) .none)
    (hl : h.IsList a (ps.map (·.1)).toArray) (hp : ∀ p ∈ ps, K.Is h p.1 p.2) (hsz : ps.length ≤ 1000)
    (q : ∀ r h' tk, Kp h h' → h.get? r = none → h'.PlainList r ((dd ps).map (·.1)).toArray → Q (.ref r) (st s h' tk)) :
    wpAny (model prog w) A (call (.ref 21) [.ref a]) Q E (st s h t) := by
  refine call_def (hA.less (by omega)) hlim hf (binds := [(Str.ofString "unhashable_params", .ref a)]) (fun doc pm cd => BindsTo.of_eq (by rfl)) (fun doc pm cd L h₀ tk k₀ hL n₀ => ?_)
  have hA1 := hA.deeper (callEnv (fdOf (Str.ofString "_deduplicate_unhashable") (dpAt 1) .none doc pm cd) L 21)
  generalize hB : A.deeper (callEnv (fdOf (Str.ofString "_deduplicate_unhashable") (dpAt 1) .none doc pm cd) L 21) = B at hA1 ⊢
  refine wpAny_execs_cons (wpAny_Assign_Name (List_ (Calls.spliced_nil (ev_newList fun r h₁ k₁ hr l₁ => ?_))))
  have n₁ := n₀.keeps k₁
  have hLr : r ≠ L := (ns_ne n₀ hr).symm
  refine st_local n₁ (fun h₂ n₂ b₂ => ?_)
  have l₂ := l₁.extBut b₂.extBut hLr
  have kS : Kp h h₂ := KpB.kp (k₀.trans k₁) (KpB.same b₂) (by simpa using hL)
  refine wpAny_execs_cons (for_list hA1.hh [L, r]
    (fun i h => (∃ m, h.Ns L m ∧ m (Str.ofString "new_unhashable") = some (.ref r)) ∧ h.PlainList r ((dd (ps.take i)).map (·.1)).toArray) ?_ (fun q => ev_local n₂ rfl q) (isList_kp kS hl) ?_ ?_ ?_ ?_ ?_)
  · rintro i h h' ⟨⟨m, n, e⟩, l⟩ k
    exact ⟨⟨m, n.at' fun o x => k L (by simp) o x, e⟩, l.at fun o x => k r (by simp) o x⟩
  · simp only [List.mem_cons, List.not_mem_nil, or_false, not_or]
    exact ⟨(iter_ne hl hL), (iter_ne hl (none_of_kp k₀ hr))⟩
  · intro b hb
    rcases List.mem_cons.mp hb with rfl | hb
    · obtain ⟨o, _, _, ho, _⟩ := n₂; exact ⟨o, ho⟩
    · rw [List.mem_singleton.mp hb]; obtain ⟨_, ho⟩ := l₂; exact ⟨_, ho⟩
  · exact ⟨⟨_, n₂, rfl⟩, by simpa [dd] using l₂⟩
  · rintro i v h₃ tk₃ E' hv kb ⟨⟨m, n₃, hm⟩, l₃⟩
    refine wpAny_assign_Name (st_local n₃ fun h₄ n₄ b₄ => ?_)
    have l₄ := l₃.extBut b₄.extBut hLr
    have hv' : ∃ p, ps[i]? = some p ∧ p.1 = v := by simpa using hv
    obtain ⟨p, hpi, rfl⟩ := hv'
    have hmem : p ∈ ps := List.mem_of_getElem? hpi
    have k34 : KpB [L, r] h₃ h₄ := (KpB.same b₄).more (by simp)
    have kS4 : Kp h h₄ := KpB.kp kS (kb.trans k34) (by simp only [List.mem_cons, List.not_mem_nil, or_false, forall_eq_or_imp, forall_eq]; exact ⟨hL, none_of_kp k₀ hr⟩)
    have htake : ps.take (i + 1) = ps.take i ++ [p] := by rw [List.take_add_one, hpi]; rfl
    have hsub : ∀ x ∈ dd (ps.take i), K.Is h₄ x.1 x.2 := fun x hx => K.mono kS4 (hp x (List.mem_of_mem_take (mem_dd _ _ hx)))
    have hpis : K.Is h₄ p.1 p.2 := K.mono kS4 (hp p hmem)
    have hany : ((dd (ps.take i)).map (·.1)).any (eqTo K h₄ p.2) = (dd (ps.take i)).any (fun q => decide (q.2 = p.2)) := by
      rw [List.any_map]; exact any_congr fun x hx => eqTo_is (hsub x hx)
    refine wpAny_execs_cons (wpAny_If (wpAny_isTrue_Compare1 (ev_local n₄ (if_pos rfl) (ev_local n₄ ((if_neg (by decide)).trans hm) (not_in (eqTo K h₄ p.2) l₄.isList ?_ (wpAny_truthy_bool ?_))))))
    · intro y hy
      obtain ⟨x, hx, rfl⟩ := List.mem_map.mp hy
      rw [eqTo_is (hsub x hx)]
      exact K.eq (by have := hA1.hu; show B.units + 1 + 66 < cLine; omega) (hsub x hx) hpis
    · rw [hany]
      cases hc : (dd (ps.take i)).any (fun q => decide (q.2 = p.2)) with
      | true =>
        refine wpAny_execs_nil (wpAny_execs_nil ⟨h₄, _, rfl, k34, ⟨_, n₄, (if_neg (by decide)).trans hm⟩, ?_⟩)
        rw [htake, dd_snoc, hc]; exact l₄
      | false =>
        refine wpAny_execs_cons (wpAny_Expr (append_call (ev_local n₄ ((if_neg (by decide)).trans hm) ⟨r, _, rfl, plainL_of l₄, ev_local n₄ (if_pos rfl) (do_append l₄ (fun h₅ l₅ b₅ => ?_) ?_)⟩)))
        · refine wpAny_execs_nil (wpAny_execs_nil ⟨h₅, _, rfl, k34.trans ((KpB.same b₅).more (by simp)), ⟨_, n₄.sameBut b₅ hLr.symm, (if_neg (by decide)).trans hm⟩, ?_⟩)
          rw [htake, dd_snoc, hc]; simpa using l₅
        · have := dd_length (ps.take i)
          have h2 : (ps.take i).length ≤ ps.length := List.length_take_le' ..
          rw [List.length_map]; omega
  · rintro h₃ tk₃ kb ⟨⟨m, n₃, hm⟩, l₃⟩
    refine wpAny_execs_cons (wpAny_Return_some (ev_local n₃ hm ?_))
    refine q r h₃ tk₃ (KpB.kp kS kb ?_) (none_of_kp k₀ hr) ?_
    · simp only [List.mem_cons, List.not_mem_nil, or_false, forall_eq_or_imp, forall_eq]; exact ⟨hL, none_of_kp k₀ hr⟩
    · simpa using l₃
end
end Mine
end
section
open PySem PySem.W PyProof.Rows PySem.SeqAt
set_option maxRecDepth 100000
set_option maxHeartbeats 4000000
namespace Mine
open MeetsSeq AutoSeq1 in
theorem removeAt_hit (l : Addr) (items : Array Value) (n : Nat) (x : Value) (e : Value → Bool) (j : Nat) (hj : j < items.size) (hit : e items[j] = true) (hs1 : items.size ≤ sizeLine) (k : Nat) :
    ∀ i : Nat, j - i = k → i ≤ j → (∀ m (hm : m < items.size), i ≤ m → m < j → e items[m] = false) → Meets (Builtin.«list.remove.loop» ⟨[.ref l, x, rawInt i], []⟩)
      (fun A R s => s.heap.get? l = some { cls := .type "list", data := .seq items n } ∧ (∀ y, y ∈ items → EqAt A.in1 s y x (e y)) ∧ R (.ok (.ret .none)) { s with heap := s.heap.update l (Obj.mapSeq fun xs => xs.eraseIdxIfInBounds j) }) := by
  induction k with
  | zero =>
    intro i hk hij _ prog w A R s h
    obtain ⟨hp, g, d, tk, os⟩ := s
    obtain ⟨hl, he, h⟩ := h
    obtain rfl : i = j := by omega
    wp_walk using wpAny_loadPart' hl
    rw [show items[((i : Nat) : Int).toNat]? = some items[i] by simp [hj]]
    refine wpAny_bind (he _ (Array.getElem_mem hj) prog w _ _ ?_)
    rw [hit]
    have hz' : (items.eraseIdxIfInBounds i).size ≤ sizeLine + 1 := Nat.le_trans (size_erased items _) (Nat.le_succ_of_le hs1)
    wp_walk using (wpAny_updateSeq hl rfl (hz := hs1) (_hz' := hz')), wpAny_loadPart' hl
    simpa using h
  | succ k ih =>
    intro i hk hij hno prog w A R s h
    obtain ⟨hp, g, d, tk, os⟩ := s
    obtain ⟨hl, he, h⟩ := h
    have hlt : i < items.size := by omega
    wp_walk using wpAny_loadPart' hl
    rw [show items[((i : Nat) : Int).toNat]? = some items[i] by simp [hlt]]
    refine wpAny_bind (he _ (Array.getElem_mem hlt) prog w _ _ ?_)
    rw [hno i hlt (Nat.le_refl _) (by omega)]
    wp_walk
    rw [show ((i : Int) + 1) = ((i + 1 : Nat) : Int) by push_cast; rfl]
    exact ⟨plainId_quiet plain_remove_loop _, codeAny_builtin entry_remove_loop (by
      rw [Around.under_plainId plain_remove_loop _]
      exact ih (i + 1) (by omega) (by omega) (fun m hm h1 h2 => hno m hm (by omega) h2) prog w A R _ ⟨hl, he, h⟩)⟩
open MeetsSeq AutoSeq1 in
theorem removeAt_miss (l : Addr) (items : Array Value) (n : Nat) (x : Value) (e : Value → Bool) (hno : ∀ m (hm : m < items.size), e items[m] = false) (k : Nat) :
    ∀ i : Nat, items.size - i = k → Meets (Builtin.«list.remove.loop» ⟨[.ref l, x, rawInt i], []⟩)
      (fun A R s => s.heap.get? l = some { cls := .type "list", data := .seq items n } ∧ (∀ y, y ∈ items → EqAt A.in1 s y x (e y)) ∧ raisesNew "ValueError" A R s) := by
  induction k with
  | zero =>
    intro i hk prog w A R s h
    obtain ⟨hp, g, d, tk, os⟩ := s
    obtain ⟨hl, he, h⟩ := h
    wp_walk using wpAny_loadPart' hl
    rw [show items[((i : Nat) : Int).toNat]? = none by simp; omega]
    wp_walk
    exact_raiseError plainExc_ValueError h.1 h.2
  | succ k ih =>
    intro i hk prog w A R s h
    obtain ⟨hp, g, d, tk, os⟩ := s
    obtain ⟨hl, he, h⟩ := h
    have hlt : i < items.size := by omega
    wp_walk using wpAny_loadPart' hl
    rw [show items[((i : Nat) : Int).toNat]? = some items[i] by simp [hlt]]
    refine wpAny_bind (he _ (Array.getElem_mem hlt) prog w _ _ ?_)
    rw [hno i hlt]
    wp_walk
    rw [show ((i : Int) + 1) = ((i + 1 : Nat) : Int) by push_cast; rfl]
    exact ⟨plainId_quiet plain_remove_loop _, codeAny_builtin entry_remove_loop (by
      rw [Around.under_plainId plain_remove_loop _]
      exact ih (i + 1) (by omega) prog w A R _ ⟨hl, he, h⟩)⟩
open MeetsSeq AutoSeq1 in
theorem remove_hit (l : Addr) (items : Array Value) (n : Nat) (x : Value) (e : Value → Bool) (j : Nat) (hj : j < items.size) (hit : e items[j] = true) (hno : ∀ m (hm : m < items.size), m < j → e items[m] = false) (hs1 : items.size ≤ sizeLine) :
    Meets (Builtin.«list.remove» ⟨[.ref l, x], []⟩)
      (fun A R s => s.heap.get? l = some { cls := .type "list", data := .seq items n } ∧ (∀ y, y ∈ items → EqAt A.in1 s y x (e y)) ∧ R (.ok (.ret .none)) { s with heap := s.heap.update l (Obj.mapSeq fun xs => xs.eraseIdxIfInBounds j) }) := by
  intro prog w A R s h
  obtain ⟨hp, g, d, tk, os⟩ := s
  obtain ⟨hl, he, h⟩ := h
  wp_walk using wpAny_loadPart' hl
  exact ⟨plainId_quiet plain_remove_loop _, codeAny_builtin entry_remove_loop (by
    rw [Around.under_plainId plain_remove_loop _]
    exact removeAt_hit l items n x e j hj hit hs1 _ 0 rfl (Nat.zero_le _) (fun m hm _ h2 => hno m hm h2) prog w A R _ ⟨hl, he, h⟩)⟩
open MeetsSeq AutoSeq1 in
theorem remove_miss (l : Addr) (items : Array Value) (n : Nat) (x : Value) (e : Value → Bool) (hno : ∀ m (hm : m < items.size), e items[m] = false) :
    Meets (Builtin.«list.remove» ⟨[.ref l, x], []⟩)
      (fun A R s => s.heap.get? l = some { cls := .type "list", data := .seq items n } ∧ (∀ y, y ∈ items → EqAt A.in1 s y x (e y)) ∧ raisesNew "ValueError" A R s) := by
  intro prog w A R s h
  obtain ⟨hp, g, d, tk, os⟩ := s
  obtain ⟨hl, he, h⟩ := h
  wp_walk using wpAny_loadPart' hl
  exact ⟨plainId_quiet plain_remove_loop _, codeAny_builtin entry_remove_loop (by
    rw [Around.under_plainId plain_remove_loop _]
    exact removeAt_miss l items n x e hno _ 0 rfl prog w A R _ ⟨hl, he, h⟩)⟩
/-- the first of that content goes -/
def rm1 {α D : Type} [DecidableEq D] (d : D) : List (α × D) → Option (List (α × D))
  | [] => none
  | q :: r => if q.2 = d then some r else (rm1 d r).map (q :: ·)
theorem rm1_none {α D : Type} [DecidableEq D] {d : D} : ∀ {qs : List (α × D)}, rm1 d qs = none → ∀ q ∈ qs, q.2 ≠ d
  | [], _ => fun _ h => nomatch h
  | q :: r, h => by
    unfold rm1 at h
    split at h
    · cases h
    · rename_i hq
      have := rm1_none (Option.map_eq_none_iff.mp h)
      intro p hp
      rcases List.mem_cons.mp hp with rfl | hp
      · exact hq
      · exact this p hp
theorem rm1_some {α D : Type} [DecidableEq D] {d : D} : ∀ {qs rs : List (α × D)}, rm1 d qs = some rs → ∃ j, ∃ hj : j < qs.length, (qs[j]).2 = d ∧ (∀ m (hm : m < qs.length), m < j → (qs[m]).2 ≠ d) ∧ rs = qs.eraseIdx j
  | [], rs, h => by cases h
  | q :: r, rs, h => by
    unfold rm1 at h
    split at h
    · rename_i hq
      cases h
      exact ⟨0, by simp, hq, fun m _ h => by omega, rfl⟩
    · rename_i hq
      obtain ⟨rs', h', rfl⟩ := Option.map_eq_some_iff.mp h
      obtain ⟨j, hj, e, hno, rfl⟩ := rm1_some h'
      refine ⟨j + 1, by simpa using hj, by simpa using e, fun m hm hmj => ?_, rfl⟩
      cases m with
      | zero => exact hq
      | succ m => simpa using hno m (by simpa using hm) (by omega)
theorem map_erase {α β : Type} (f : α → β) : ∀ (l : List α) (j : Nat), (l.map f).eraseIdx j = (l.eraseIdx j).map f
  | [], _ => rfl
  | _ :: _, 0 => rfl
  | a :: r, j + 1 => by show f a :: (r.map f).eraseIdx j = f a :: (r.eraseIdx j).map f; rw [map_erase f r j]
section
variable {prog : Program} {w : World} {M : Model} {A : Around} {E : Value → Shared → Prop} {R : Result → Shared → Prop} {s : Shared} {h : Heap} {t : Nat} {env : Env}
theorem do_remove {D : Type} [DecidableEq D] (K : Kind D) {l : Addr} {qs rs : List (Value × D)} {x : Value} {d : D} {Q : Value → Shared → Prop} (hu : A.units + 68 < cLine) (hl : h.PlainList l (qs.map (·.1)).toArray) (hq : ∀ q ∈ qs, K.Is h q.1 q.2) (hx : K.Is h x d)
    (hr : rm1 d qs = some rs) (hsz : qs.length ≤ 1000)
    (q : ∀ h', h'.PlainList l (rs.map (·.1)).toArray → Heap.SameBut l h h' → Q .none (st s h' t)) :
    wpAny (model prog w) A (call (.builtin "list.remove") [.ref l, x]) Q E (st s h t) := by
  obtain ⟨n, ho⟩ := hl
  obtain ⟨j, hj, e, hno, rfl⟩ := rm1_some hr
  have hz : sizeLine = 16777216 := rfl
  have at' : ∀ m (hm : m < ((qs.map (·.1)).toArray).size), eqTo K h d ((qs.map (·.1)).toArray)[m] = decide ((qs[m]'(by simpa using hm)).2 = d) := fun m hm => by
    simp only [List.getElem_toArray, List.getElem_map]
    exact eqTo_is (hq _ (List.getElem_mem _))
  refine call_meets (s := st s h t) PySem.F.slot_list_remove ⟨_, ho, rfl⟩ PySem.F.entry_list_remove (PySem.F.args_list_remove_2 _ _) (remove_hit l (qs.map (fun p : Value × D => p.1)).toArray n x (eqTo K h d) j (by simpa using hj) ?_ ?_ ?_) ⟨ho, ?_, ?_⟩
  · rw [at']; exact decide_eq_true e
  · intro m hm hmj
    rw [at']; exact decide_eq_false (hno m (by simpa using hm) hmj)
  · rw [List.size_toArray, List.length_map]; omega
  · intro y hy
    obtain ⟨p, hp, rfl⟩ := List.mem_map.mp (List.mem_toArray.mp hy)
    rw [eqTo_is (hq p hp)]
    exact K.eq (by show A.units + 1 + 66 < cLine; omega) (hq p hp) hx
  · refine q _ ?_ (Heap.SameBut.update ..)
    have hm : Obj.mapSeq (fun xs => xs.eraseIdxIfInBounds j) { cls := .type "list", data := .seq (qs.map (fun p : Value × D => p.1)).toArray n } = { cls := .type "list", data := .seq ((qs.eraseIdx j).map (fun p : Value × D => p.1)).toArray (n + 1) } := by
      simp [Obj.mapSeq, hj, Array.eraseIdxIfInBounds]
      refine ⟨map_erase _ _ _, ?_⟩
      rw [List.length_eraseIdx_of_lt (by simpa using hj), List.length_map]; omega
    exact ⟨n + 1, by rw [← hm]; exact Heap.get?_update_self _ ho (by rw [hm]; rfl)⟩
theorem do_remove_miss {D : Type} [DecidableEq D] (K : Kind D) {l : Addr} {qs : List (Value × D)} {x : Value} {d : D} {Q : Value → Shared → Prop} (hh : A.handled = none) (hu : A.units + 68 < cLine) (hl : h.PlainList l (qs.map (·.1)).toArray) (hq : ∀ q ∈ qs, K.Is h q.1 q.2) (hx : K.Is h x d)
    (hr : rm1 d qs = none) (q : ∀ h' tk e, Heap.NewExc h h' e "ValueError" → E (.ref e) (st s h' tk)) :
    wpAny (model prog w) A (call (.builtin "list.remove") [.ref l, x]) Q E (st s h t) := by
  obtain ⟨n, ho⟩ := hl
  refine call_meets (s := st s h t) PySem.F.slot_list_remove ⟨_, ho, rfl⟩ PySem.F.entry_list_remove (PySem.F.args_list_remove_2 _ _) (remove_miss l (qs.map (fun p : Value × D => p.1)).toArray n x (eqTo K h d) ?_) ⟨ho, ?_, hh, fun h' tk e hx => ?_⟩
  · intro m hm
    simp only [List.getElem_toArray, List.getElem_map]
    rw [eqTo_is (hq _ (List.getElem_mem _))]
    exact decide_eq_false (rm1_none hr _ (List.getElem_mem _))
  · intro y hy
    obtain ⟨p, hp, rfl⟩ := List.mem_map.mp (List.mem_toArray.mp hy)
    rw [eqTo_is (hq p hp)]
    exact K.eq (by show A.units + 1 + 66 < cLine; omega) (hq p hp) hx
  · exact q h' tk e hx
end
end Mine
end
section
open PySem PySem.W PyProof.Rows PySem.SeqAt
set_option maxRecDepth 100000
set_option maxHeartbeats 4000000
namespace Mine
def gNames : List (Str × Addr) := [(Str.ofString "_deduplicate_unhashable", 21), (Str.ofString "_compare_args_orderless", 28), (Str.ofString "cmp_to_key", 35), (Str.ofString "_initial_missing", 36), (Str.ofString "reduce", 44), (Str.ofString "_law_row", 49),
  (Str.ofString "_law_beginning", 54), (Str.ofString "_law_lesser", 61), (Str.ofString "_law_joined", 68)]
def bNames : List Str := [Str.ofString "list", Str.ofString "len", Str.ofString "range", Str.ofString "iter", Str.ofString "next", Str.ofString "min", Str.ofString "ValueError"]
/-- what of the text's own stands in the heap -/
structure Gnd (h : Heap) : Prop where
  lim : h.NoLimit
  f21 : DefAt h 21 (Str.ofString "_deduplicate_unhashable") (dpAt 1) .none
  f28 : DefAt h 28 (Str.ofString "_compare_args_orderless") (dpAt 2) .none
  f44 : DefAt h 44 (Str.ofString "reduce") (dpAt 6) (.ref 37)
  f49 : DefAt h 49 (Str.ofString "_law_row") (dpAt 8) .none
  f54 : DefAt h 54 (Str.ofString "_law_beginning") (dpAt 9) .none
  f61 : DefAt h 61 (Str.ofString "_law_lesser") (dpAt 10) .none
  f68 : DefAt h 68 (Str.ofString "_law_joined") (dpAt 11) .none
  t37 : ∃ o n, h.get? 37 = some o ∧ o.data = .seq #[.ref 36] n
  g : ∃ mg, h.Ns mainGlobals mg ∧ (∀ p ∈ gNames, mg p.1 = some (.ref p.2)) ∧ ∀ x ∈ bNames, mg x = none
  b : ∃ mb, h.Ns builtinsNs mb ∧ ∀ x ∈ bNames, mb x = bootBuiltins x
theorem Gnd.mono {h h' : Heap} (k : Kp h h') (G : Gnd h) : Gnd h' where
  lim := G.lim.keeps k
  f21 := G.f21.mono k
  f28 := G.f28.mono k
  f44 := G.f44.mono k
  f49 := G.f49.mono k
  f54 := G.f54.mono k
  f61 := G.f61.mono k
  f68 := G.f68.mono k
  t37 := let ⟨o, n, e, d⟩ := G.t37; ⟨o, n, k _ _ e, d⟩
  g := let ⟨mg, n, r⟩ := G.g; ⟨mg, n.keeps k, r⟩
  b := let ⟨mb, n, r⟩ := G.b; ⟨mb, n.keeps k, r⟩
theorem boot_list : bootBuiltins (Str.ofString "list") = some (.type "list") := by decide +kernel
theorem boot_len : bootBuiltins (Str.ofString "len") = some (.builtin "len") := by decide +kernel
theorem boot_range : bootBuiltins (Str.ofString "range") = some (.type "range") := by decide +kernel
theorem boot_iter : bootBuiltins (Str.ofString "iter") = some (.builtin "iter") := by decide +kernel
theorem boot_next : bootBuiltins (Str.ofString "next") = some (.builtin "next") := by decide +kernel
theorem boot_min : bootBuiltins (Str.ofString "min") = some (.builtin "min") := by decide +kernel
theorem boot_VE : bootBuiltins (Str.ofString "ValueError") = some (.type "ValueError") := by decide +kernel
section
variable {prog : Program} {w : World} {M : Model} {A : Around} {E : Value → Shared → Prop} {R : Result → Shared → Prop} {s : Shared} {h : Heap} {t : Nat} {env : Env}
theorem ev_global {x : Str} {a : Addr} {pos : Pos} {Q : Value → Shared → Prop} (G : Gnd h) (q : Q (.ref a) (st s h t)) (hx : (x, a) ∈ gNames := by simp [gNames])
    (hg : env.globals = mainGlobals := by rfl) (hk : env.scope.kind = .function := by rfl) (hl : env.kindOf x = some .globalImplicit := by rfl) (hd : (x == ("__debug__" : Str)) = false := by decide) :
    wpAny M A (eval (.Name x pos) env) Q E (st s h t) := by
  obtain ⟨mg, n, e, _⟩ := G.g
  exact Calls.Name_function_global hk hl (Calls.loadGlobal_global (s := st s h t) (hg ▸ n) (e _ hx) q) hd
theorem ev_builtin {x : Str} {v : Value} {pos : Pos} {Q : Value → Shared → Prop} (G : Gnd h) (hb : bootBuiltins x = some v) (q : Q v (st s h t)) (hx : x ∈ bNames := by simp [bNames])
    (hg : env.globals = mainGlobals := by rfl) (hbn : env.builtins = builtinsNs := by rfl) (hk : env.scope.kind = .function := by rfl) (hl : env.kindOf x = some .globalImplicit := by rfl) (hd : (x == ("__debug__" : Str)) = false := by decide) :
    wpAny M A (eval (.Name x pos) env) Q E (st s h t) := by
  obtain ⟨mg, n, _, e⟩ := G.g
  obtain ⟨mb, nb, eb⟩ := G.b
  exact Calls.Name_function_global hk hl (Calls.loadGlobal_builtin (s := st s h t) (hg ▸ n) (e _ hx) (hbn ▸ nb) ((eb _ hx).trans hb) q) hd
/-- f(x ..) for a def f -/
theorem ev_def {f : Addr} {nm : Str} {d : DP} {dV : Value} {e : Expr} {rest : List Expr} {pos : Pos} {Q : Value → Shared → Prop} (hf : DefAt h f nm d dV)
    (q : wpAny M A (spliced (backTo pos (starEach (e :: rest) env))) (fun vs s₁ => Kp h s₁.heap ∧ wpAny M A (call (.ref f) vs) Q E s₁) E (st s h t))
    (he : starEach (e :: rest) env = (false, eval e env) :: starEach rest env := by rfl) :
    wpAny M A (callWith pos (.ref f) [] (backTo pos (starEach (e :: rest) env)) []) Q E (st s h t) := by
  obtain ⟨o, doc, pm, cd, ho, hd, _⟩ := hf
  exact callWith_def hd (wpAny_mono q (fun vs s₁ q => ⟨q.1 _ _ ho, q.2⟩) fun _ _ e => e) he
/-- f(x) for a def f that a global names -/
theorem ev_call1 {f : Addr} {nm : Str} {d : DP} {dV : Value} {x : Str} {e : Expr} {p pos : Pos} {Q : Value → Shared → Prop} (G : Gnd h) (hf : DefAt h f nm d dV)
    (q : wpAny M A (eval e env) (fun v s₁ => Kp h s₁.heap ∧ wpAny M A (call (.ref f) [v]) Q E s₁) E (st s h t)) (hx : (x, f) ∈ gNames := by simp [gNames])
    (hg : env.globals = mainGlobals := by rfl) (hk : env.scope.kind = .function := by rfl) (hl : env.kindOf x = some .globalImplicit := by rfl) (hd : (x == ("__debug__" : Str)) = false := by decide)
    (h1 : eval (.Call (.Name x p) [e] [] pos) env = (do callWith pos (← eval (.Name x p) env) [] (backTo pos (starEach [e] env)) (backToKw pos (keywordEach [] env))) := by rfl)
    (he : starEach [e] env = (false, eval e env) :: starEach [] env := by rfl) :
    wpAny M A (eval (.Call (.Name x p) [e] [] pos) env) Q E (st s h t) :=
  Call_ (ev_global G (ev_def hf (args_cons (wpAny_mono q (fun _ _ q => args_nil q) fun _ _ e => e) he) he) hx hg hk hl hd) h1
theorem ev_call2 {f : Addr} {nm : Str} {d : DP} {dV : Value} {x : Str} {e e' : Expr} {p pos : Pos} {Q : Value → Shared → Prop} (G : Gnd h) (hf : DefAt h f nm d dV)
    (q : wpAny M A (eval e env) (fun v s₁ => wpAny M A (eval e' env) (fun v' s₂ => Kp h s₂.heap ∧ wpAny M A (call (.ref f) [v, v']) Q E s₂) E s₁) E (st s h t)) (hx : (x, f) ∈ gNames := by simp [gNames])
    (hg : env.globals = mainGlobals := by rfl) (hk : env.scope.kind = .function := by rfl) (hl : env.kindOf x = some .globalImplicit := by rfl) (hd : (x == ("__debug__" : Str)) = false := by decide)
    (h1 : eval (.Call (.Name x p) [e, e'] [] pos) env = (do callWith pos (← eval (.Name x p) env) [] (backTo pos (starEach [e, e'] env)) (backToKw pos (keywordEach [] env))) := by rfl)
    (he : starEach [e, e'] env = (false, eval e env) :: starEach [e'] env := by rfl) (he' : starEach [e'] env = (false, eval e' env) :: starEach [] env := by rfl) :
    wpAny M A (eval (.Call (.Name x p) [e, e'] [] pos) env) Q E (st s h t) :=
  Call_ (ev_global G (ev_def hf (args_cons (wpAny_mono q (fun _ _ q => args_cons (wpAny_mono q (fun _ _ q => args_nil q) fun _ _ e => e) he') fun _ _ e => e) he) he) hx hg hk hl hd) h1
/-- T(x) for a built-in class T -/
theorem ev_type1 {T : String} {x : Str} {e : Expr} {p pos : Pos} {Q : Value → Shared → Prop} (G : Gnd h) (hb : bootBuiltins x = some (.type T))
    (q : wpAny M A (eval e env) (fun v s₁ => wpAny M A (call (.type T) [v]) Q E s₁) E (st s h t)) (hx : x ∈ bNames := by simp [bNames])
    (hg : env.globals = mainGlobals := by rfl) (hbn : env.builtins = builtinsNs := by rfl) (hk : env.scope.kind = .function := by rfl) (hl : env.kindOf x = some .globalImplicit := by rfl) (hd : (x == ("__debug__" : Str)) = false := by decide)
    (h1 : eval (.Call (.Name x p) [e] [] pos) env = (do callWith pos (← eval (.Name x p) env) [] (backTo pos (starEach [e] env)) (backToKw pos (keywordEach [] env))) := by rfl)
    (he : starEach [e] env = (false, eval e env) :: starEach [] env := by rfl) :
    wpAny M A (eval (.Call (.Name x p) [e] [] pos) env) Q E (st s h t) :=
  Call_ (ev_builtin G hb (PySem.Pv.callWith_type1 (args_cons (wpAny_mono q (fun _ _ q => args_nil q) fun _ _ e => e) he) he) hx hg hbn hk hl hd) h1
/-- f(x) for a built-in function f -/
theorem ev_bi1 {id : String} {x : Str} {e : Expr} {p pos : Pos} {Q : Value → Shared → Prop} (G : Gnd h) (hb : bootBuiltins x = some (.builtin id))
    (q : wpAny M A (eval e env) (fun v s₁ => wpAny M A (call (.builtin id) [v]) Q E s₁) E (st s h t)) (hx : x ∈ bNames := by simp [bNames])
    (hg : env.globals = mainGlobals := by rfl) (hbn : env.builtins = builtinsNs := by rfl) (hk : env.scope.kind = .function := by rfl) (hl : env.kindOf x = some .globalImplicit := by rfl) (hd : (x == ("__debug__" : Str)) = false := by decide)
    (h1 : eval (.Call (.Name x p) [e] [] pos) env = (do callWith pos (← eval (.Name x p) env) [] (backTo pos (starEach [e] env)) (backToKw pos (keywordEach [] env))) := by rfl)
    (he : starEach [e] env = (false, eval e env) :: starEach [] env := by rfl) :
    wpAny M A (eval (.Call (.Name x p) [e] [] pos) env) Q E (st s h t) :=
  Call_ (ev_builtin G hb (callWith_builtin1 (args_cons (wpAny_mono q (fun _ _ q => args_nil q) fun _ _ e => e) he) he) hx hg hbn hk hl hd) h1
theorem do_list {a : Addr} {vs : List Value} {Q : Value → Shared → Prop} (hl : h.IsList a vs.toArray) (hsz : vs.length ≤ 100000)
    (q : ∀ r h', Kp h h' → h.get? r = none → h'.PlainList r vs.toArray → Q (.ref r) (st s h' t)) : wpAny (model prog w) A (call (.type "list") [.ref a]) Q E (st s h t) := by
  obtain ⟨o, ho, hc, n, hd⟩ := hl
  have hz : sizeLine = 16777216 := rfl
  exact call_list_seq (s := st s h t) (hsz := by rw [List.size_toArray]; omega) a (.inl rfl) ho hc hd fun h' c' hk hD => q _ h' hk none_of_size ⟨c', hD⟩
theorem do_truthy {a : Addr} {vs : List Value} {Q : Bool → Shared → Prop} (hl : h.IsList a vs.toArray) (hsz : vs.length ≤ 100000) (q : ∀ tk, Q (!vs.isEmpty) (st s h tk)) : wpAny (model prog w) A (truthy (.ref a)) Q E (st s h t) :=
  wpAny_truthy_list (s := st s h t) hl (by rw [List.size_toArray]; omega) (by rw [List.isEmpty_toArray]; exact q (t + 1 + 1))
/-- l.remove(x), l.index(x) -/
theorem ev_meth1 {name : Str} {id : String} {o e : Expr} {apos pos : Pos} {pl : Sem Bool} {l : Addr} {items : Array Value} {Q : Value → Shared → Prop} (slot : Slot "list" name id) (hty : typeOf (.builtin id) = pure (.type "method_descriptor"))
    (q : wpAny (model prog w) A (eval o env) (fun ov s₁ => ov = .ref l ∧ s₁.heap.PlainList l items ∧ wpAny (model prog w) A (eval e env) (fun v s₂ => wpAny (model prog w) A (call (.builtin id) [.ref l, v]) Q E s₂) E s₁) E (st s h t))
    (hev : eval (.Call (.Attribute o name apos) [e] [] pos) env = (do
      let ov ← eval o env
      standAt apos.atName
      let (f, first) ← holding [ov] (getMethod ov name pl)
      callWith pos f first (backTo pos (starEach [e] env)) []) := by rfl)
    (he : starEach [e] env = (false, eval e env) :: starEach [] env := by rfl) :
    wpAny (model prog w) A (eval (.Call (.Attribute o name apos) [e] [] pos) env) Q E (st s h t) := by
  refine MethodCall_ (wpAny_mono q (fun ov s₁ q => ?_) fun _ _ e => e) hev
  obtain ⟨rfl, hl, q⟩ := q
  refine getMethod_list_of slot hty hl.isList (let ⟨_, e⟩ := hl; ⟨_, e, rfl⟩) ?_
  exact callWith_method1 (args_cons (wpAny_mono q (fun _ _ q => args_nil q) fun _ _ e => e) he) he
end
end Mine
end
section
open PySem PySem.W PyProof.Rows PySem.SeqAt
set_option maxRecDepth 100000
set_option maxHeartbeats 4000000
namespace Mine
/-- all stands as it was, but that a frame's slots may have turned -/
structure KpF (F : List Addr) (h h' : Heap) : Prop where
  but : ∀ b o, b ∉ F → h.get? b = some o → h'.get? b = some o
  fr : ∀ b o, b ∈ F → h.get? b = some o → ∃ sl, h'.get? b = some { o with slots := sl }
theorem KpF.of {F : List Addr} {h h' : Heap} (k : Kp h h') : KpF F h h' := ⟨fun b o _ e => k b o e, fun b o _ e => ⟨o.slots, k b o e⟩⟩
theorem KpF.any {F : List Addr} {h h' : Heap} (k : KpF F h h') {b : Addr} {o : Obj} (e : h.get? b = some o) : ∃ sl, h'.get? b = some { o with slots := sl } := by
  by_cases hb : b ∈ F
  · exact k.fr b o hb e
  · exact ⟨o.slots, k.but b o hb e⟩
theorem KpF.trans {F : List Addr} {h h' h'' : Heap} (x : KpF F h h') (y : KpF F h' h'') : KpF F h h'' :=
  ⟨fun b o n e => y.but b o n (x.but b o n e), fun b o m e => let ⟨_, e'⟩ := x.fr b o m e; let ⟨sl, e''⟩ := y.fr b _ m e'; ⟨sl, e''⟩⟩
theorem KpF.ns {F : List Addr} {h h' : Heap} (k : KpF F h h') {L : Addr} {m : Str → Option Value} (n : h.Ns L m) : h'.Ns L m := by
  obtain ⟨o, es, ep, ho, r⟩ := n
  obtain ⟨sl, e⟩ := k.any ho
  exact ⟨_, es, ep, e, r⟩
theorem KpF.funs {F : List Addr} {h h' base : Heap} (k : KpF F h h') {l : List Env} (n : h.FunFrames base l) : h'.FunFrames base l :=
  n.of_keeps fun _ _ e _ => let ⟨_, e'⟩ := k.any e; ⟨_, e', rfl⟩
def frs (l : List Env) : List Addr := l.filterMap (·.frame)
def emp : Heap := default
theorem emp_none (a : Addr) : emp.get? a = none := by
  cases e : emp.get? a with
  | none => rfl
  | some o => exact absurd (Heap.lt_size e) (Nat.not_lt_zero _)
/-- e flies, its newest entry is L's -/
def Held (h : Heap) (e L T : Addr) (X : String) : Prop :=
  ∃ oe vs oT ts, h.get? e = some oe ∧ oe.cls = .type X ∧ oe.data = .fields vs ∧ vs[1]? = some (.ref T) ∧ h.get? T = some oT ∧ oT.data = .fields ts ∧ ts[3]? = some (rawInt L) ∧ T ≠ e
section
variable {prog : Program} {w : World} {M : Model} {A : Around} {E : Value → Shared → Prop} {R : Result → Shared → Prop} {s : Shared} {h : Heap} {t : Nat} {env : Env}
theorem note_new {e L : Addr} {oe : Obj} {vs : Array Value} {X : String} {outer : List Env} {Q : Unit → Shared → Prop} (hfr : A.frames = some (env :: outer)) (hl : h.FunFrames emp (env :: outer)) (hf : env.frame = some L)
    (he : h.get? e = some oe) (hc : oe.cls = .type X) (hd : oe.data = .fields vs) (h1 : vs[1]? = some .none)
    (q : ∀ h' T, h.get? T = none → (∀ b o, b ≠ e → b ∉ frs (env :: outer) → h.get? b = some o → h'.get? b = some o) → (∀ b o, b ∈ frs (env :: outer) → h.get? b = some o → ∃ sl, h'.get? b = some { o with slots := sl }) →
      Held h' e L T X → Q () (st s h' t)) : wpAny M A (noteFrame (.ref e) env) Q E (st s h t) := by
  have hsz : 1 < vs.size := (Array.getElem?_eq_some_iff.mp h1).1
  have hene : e ∉ (env :: outer).filterMap (·.frame) := fun hm => by
    obtain ⟨_, o, ho, hnf⟩ := hl.mem hm
    rw [he] at ho; injection ho with ho; subst ho; exact hnf vs hd
  unfold noteFrame
  simp only [hf]
  refine wpAny_bind (wpAny_field (s := st s h t) he hd h1 ?_)
  rw [if_neg (by decide)]
  refine wpAny_bind (wpAny_frameOf_fun (s := st s h t) hfr hl hf fun h₁ hs₁ => ?_)
  refine wpAny_bind (wpAny_entryPlaceOf fun pl hpl => ?_)
  unfold EntryCells.newEntry newFields
  refine wpAny_bind (wpAny_newObj_type ?_ (hpl.sizeOk5 _ _ _ _ _))
  have he₁ : h₁.get? e = some oe := (hs₁.2.1 e hene).trans he
  have he₂ := Heap.get?_push_of_some (h := h₁) { cls := .type "traceback", dict := none, data := .fields ([Value.none, .ref L, .none, rawInt L, .none] ++ (if pl.isEmpty then List.replicate 6 Value.none else pl)).toArray } he₁
  refine wpAny_setField he₂ hd hsz ?_
  have hTe : h₁.objs.size ≠ e := Nat.ne_of_gt (Heap.lt_size he₁)
  have hd₃ := Obj.data_mapFields hd (·.setIfInBounds 1 (Value.ref h₁.objs.size))
  have keep : ∀ b o, b ≠ e → h₁.get? b = some o → ((h₁.push { cls := .type "traceback", dict := none, data := .fields ([Value.none, .ref L, .none, rawInt L, .none] ++ (if pl.isEmpty then List.replicate 6 Value.none else pl)).toArray }).update e (Obj.mapFields (·.setIfInBounds 1 (Value.ref h₁.objs.size)))).get? b = some o := fun b o hbe hb => by
    rw [Heap.get?_update_other _ _ (Ne.symm hbe)]
    exact Heap.get?_push_of_some _ hb
  refine q _ h₁.objs.size (Heap.get?_none_of_le (by rw [hs₁.1]; exact Nat.le_refl _)) (fun b o hbe hbF e' => keep b o hbe ((hs₁.2.1 b hbF).trans e')) (fun b o hbF e' => ?_) ?_
  · obtain ⟨sl, z⟩ := hs₁.2.2 b o e'
    exact ⟨sl, keep b _ (fun q => hene (q ▸ hbF)) z⟩
  · refine ⟨_, _, _, _, Heap.get?_update_self _ he₂ (Obj.isFreed_of_fields hd₃), (Obj.cls_mapFields _ _).trans hc, hd₃, by simp [hsz], (Heap.get?_update_other _ _ (Ne.symm hTe)).trans (Heap.get?_push_size h₁ rfl), rfl, ?_, hTe⟩
    simp
/-- the loop's own catch: noted, and come back to the frame -/
theorem come_back {e L : Addr} {h₀ : Heap} {X : String} {outer : List Env} (hfr : A.frames = some (env :: outer)) (hl : h₀.FunFrames emp (env :: outer)) (hf : env.frame = some L)
    (hx : Heap.NewExc h₀ h e X)
    (q : ∀ h' T, h₀.get? T = none → KpF (frs (env :: outer)) h₀ h' → Held h' e L T X → E (.ref e) (st s h' t)) :
    notedBy M A env (cameBackBy M A env E) (.ref e) (st s h t) := by
  obtain ⟨ob, tp, he, hcls, hd⟩ := hx.there
  have kx : Kp h₀ h := hx.keeps
  refine note_new hfr ((KpF.of (F := []) kx).funs hl) hf he hcls hd rfl fun h' T hT kb kf H => ?_
  obtain ⟨oe, vs, oT, ts, e1, e2, e3, e4, e5, e6, e7, e8⟩ := id H
  unfold cameBackBy
  refine wpAny_bind (wpAny_field (s := st s h' t) e1 e3 e4 ?_)
  rw [if_neg (by simp)]
  unfold setFlight
  refine wpAny_bind (wpAny_field (s := st s h' t) e1 e3 e4 ?_)
  rw [if_pos (by simp)]
  refine wpAny_setField (s := st s h' t) e5 e6 (Array.getElem?_eq_some_iff.mp e7).1 ?_
  have hT0 : h₀.get? T = none := none_of_kp kx hT
  have he0 : h₀.get? e = none := hx.new
  have d2 := Obj.data_mapFields e6 (·.setIfInBounds 3 (env.frame.elim Value.none fun f => rawInt f))
  refine q _ T hT0 ⟨fun b o hb e' => ?_, fun b o hb e' => ?_⟩ ⟨oe, vs, _, _, ?_, e2, e3, e4, Heap.get?_update_self _ e5 (Obj.isFreed_of_fields d2), d2, ?_, e8⟩
  · rw [Heap.get?_update_other _ _ (fun q => by rw [← q, hT0] at e'; cases e')]
    exact kb b o (fun q => by rw [q, he0] at e'; cases e') hb (kx b o e')
  · obtain ⟨sl, z⟩ := kf b o hb (kx b o e')
    exact ⟨sl, by rw [Heap.get?_update_other _ _ (fun q => by rw [← q, hT0] at e'; cases e')]; exact z⟩
  · rw [Heap.get?_update_other _ _ e8]; exact e1
  · have := (Array.getElem?_eq_some_iff.mp e7).1
    rw [hf]; simp [this]
end
end Mine
end
section
open PySem PySem.W PyProof.Rows PySem.SeqAt
set_option maxRecDepth 100000
set_option maxHeartbeats 4000000
namespace Mine
theorem sub_VE_B : isSubtype (.type "ValueError") (.type "BaseException") = pure true := by rw [isSubtype_type]; kernel_rfl
theorem sub_VE_t : isSubtype (.type ((Manifest.find? "ValueError").elim "type" fun x => x.metatype)) (.type "tuple") = pure false := by rw [isSubtype_type]; kernel_rfl
theorem sub_VE_VE : isSubtype (.type "ValueError") (.type "ValueError") = pure true := by rw [isSubtype_type]; kernel_rfl
section
variable {prog : Program} {w : World} {M : Model} {A : Around} {E : Value → Shared → Prop} {R : Result → Shared → Prop} {s : Shared} {h : Heap} {t : Nat} {env : Env}
/-- try: .. except ValueError: .. -/
theorem try_VE {body suite : List Stmt} {b₀ : Stmt} {L : Addr} {np hp pos : Pos} {Q : Flow → Shared → Prop} (hf : env.frame = some L)
    (q : wpAny (model prog w) A (execs body env) (fun f s₁ => Q f s₁)
      (fun x s₁ => ∃ e h₁ t₁ T, x = .ref e ∧ s₁ = st s h₁ t₁ ∧ Held h₁ e L T "ValueError" ∧ (∀ h₂, KpB [T] h₁ h₂ → Gnd h₂) ∧ ∀ h₂ E', KpB [T] h₁ h₂ → wpAny (model prog w) (A.mark (some (.ref e))) (execs (b₀ :: suite) env) Q E' (st s h₂ t₁)) (st s h t))
    (hg : env.globals = mainGlobals := by rfl) (hbn : env.builtins = builtinsNs := by rfl) (hk : env.scope.kind = .function := by rfl) (hl : env.kindOf (Str.ofString "ValueError") = some .globalImplicit := by rfl) :
    wpAny (model prog w) A (exec (.Try body [.ExceptHandler (some (.Name (Str.ofString "ValueError") np)) none (b₀ :: suite) hp] [] [] pos) env) Q E (st s h t) := by
  refine wpAny_Try_except (wpAny_mono q (fun f s₁ q => ?_) fun x s₁ q => ?_)
  · cases f <;> first | exact q | exact wpAny_execs_nil q
  · obtain ⟨e, h₁, t₁, T, rfl, rfl, H, G, q⟩ := q
    obtain ⟨oe, vs, oT, ts, e1, e2, e3, e4, e5, e6, e7, e8⟩ := H
    refine wpAny_noteFrame_inFlight (s := st s h₁ t₁) hf e1 e3 e4 e5 e6 e7 ?_
    have hts : 3 < ts.size := (Array.getElem?_eq_some_iff.mp e7).1
    refine wpAny_setFlight_none (s := st s h₁ t₁) e1 e3 e4 e5 e6 hts ?_
    have d2 := Obj.data_mapFields e6 (·.setIfInBounds 3 Value.none)
    have e5' := Heap.get?_update_self (Obj.mapFields (·.setIfInBounds 3 Value.none)) e5 (Obj.isFreed_of_fields d2)
    have e1' : (h₁.update T (Obj.mapFields (·.setIfInBounds 3 Value.none))).get? e = some oe := (Heap.get?_update_other _ _ e8).trans e1
    have kb : KpB [T] h₁ (h₁.update T (Obj.mapFields (·.setIfInBounds 3 Value.none))) := KpB.same (Heap.SameBut.update ..)
    have G2 := G _ kb
    refine wpAny_handleBy_builtin (X := "ValueError") (T := "ValueError") (b := true) sub_VE_B sub_VE_t sub_VE_VE
      (ev_builtin (s := s) (h := h₁.update T (Obj.mapFields (·.setIfInBounds 3 Value.none))) (t := t₁) G2 boot_VE ⟨rfl, ⟨_, e1', e2⟩, ?_⟩ (by simp [bNames]) hg hbn hk hl)
    rw [if_pos rfl]
    refine wpAny_setFlight_none (s := st s _ t₁) e1' e3 e4 e5' d2 (by simpa using hts) ?_
    exact q _ _ (kb.trans (KpB.same (Heap.SameBut.update ..)))
/-- for x in a list, whose turn may raise -/
theorem for_listE {a : Addr} {vs : List Value} {x : Str} {px pos : Pos} {iter : Expr} {body : List Stmt} {Q : Flow → Shared → Prop}
    (hA : A.handled = none) (S : List Addr) (J : Nat → Heap → Prop)
    (Jf : ∀ i h h', J i h → (∀ b ∈ S, ∀ o, h.get? b = some o → h'.get? b = some o) → J i h')
    (hiter : ∀ {Q' : Value → Shared → Prop}, Q' (.ref a) (st s h t) → wpAny (model prog w) A (eval iter env) Q' E (st s h t))
    (hl : h.IsList a vs.toArray) (haS : a ∉ S) (hS : ∀ b ∈ S, ∃ o, h.get? b = some o) (j0 : J 0 h)
    (turn : ∀ i v h₁ tk, vs[i]? = some v → KpB S h h₁ → J i h₁ →
      wpAny (model prog w) A (assign (.Name x px) env v) (fun _ s₂ => wpAny (model prog w) A (execs body env) (fun fl s₃ => match fl with
          | .next | .cont => ∃ h' tk', s₃ = st s h' tk' ∧ KpB S h₁ h' ∧ J (i + 1) h'
          | .brk => Q .next s₃
          | .ret v => Q (.ret v) s₃) (notedBy (model prog w) A env (cameBackBy (model prog w) A env E)) s₂) (notedBy (model prog w) A env (cameBackBy (model prog w) A env E)) (st s h₁ tk))
    (done : ∀ h₁ tk, KpB S h h₁ → J vs.length h₁ → Q .next (st s h₁ tk))
    (hs : ∀ x, foldedSetIterable iter env x = pure x := by intro _; rfl) :
    wpAny (model prog w) A (exec (.For (.Name x px) iter body [] pos) env) Q E (st s h t) := by
  refine wpAny_For (hiter (it_list hl fun I h' k hI hit => ?_)) hs
  have hSI : ∀ b ∈ S, b ≠ I := fun b hb => let ⟨o, ho⟩ := hS b hb; ne_of_none ho hI
  refine for_walk (Walks.list hA I a (iter_ne hl hI) vs.toArray) S (fun b hb hm => ?_) J Jf (k := 0) ⟨hit, isList_kp k hl⟩ (Jf 0 h h' j0 fun b _ o e => k b o e) (Nat.zero_le _) ?_ ?_
  · rcases List.mem_cons.mp hm with e | hm
    · exact hSI b hb e
    · exact haS (List.mem_singleton.mp hm ▸ hb)
  · intro i v h₁ tk _ _ hv kb j
    exact turn i v h₁ tk (by simpa using hv) (fun b o hb e => kb b o (fun q => (List.mem_append.mp q).elim hb fun q => (ne_of_none e hI) (List.mem_singleton.mp q)) (k b o e)) j
  · intro h₁ tk kb j
    refine done h₁ tk (fun b o hb e => kb b o (fun q => (List.mem_append.mp q).elim hb fun q => (ne_of_none e hI) (List.mem_singleton.mp q)) (k b o e)) ?_
    simpa using j
end
theorem DefAt.monoF {F : List Addr} {h h' : Heap} {f : Addr} {nm : Str} {d : DP} {dV : Value} (k : KpF F h h') : DefAt h f nm d dV → DefAt h' f nm d dV
  | ⟨o, doc, pm, cd, e, e', c⟩ => by
    obtain ⟨sl, z⟩ := k.any e
    obtain ⟨c, oc, vs, tt, c1, c2, c3, c4⟩ := c
    obtain ⟨sl', z'⟩ := k.any c2
    exact ⟨_, doc, pm, cd, z, e', c, _, vs, tt, c1, z', c3, c4⟩
theorem Gnd.monoF {F : List Addr} {h h' : Heap} (k : KpF F h h') (G : Gnd h) : Gnd h' where
  lim := let ⟨m, n, e⟩ := G.lim; ⟨m, k.ns n, e⟩
  f21 := G.f21.monoF k
  f28 := G.f28.monoF k
  f44 := G.f44.monoF k
  f49 := G.f49.monoF k
  f54 := G.f54.monoF k
  f61 := G.f61.monoF k
  f68 := G.f68.monoF k
  t37 := let ⟨_, n, e, d⟩ := G.t37; let ⟨_, z⟩ := k.any e; ⟨_, n, z, d⟩
  g := let ⟨mg, n, r⟩ := G.g; ⟨mg, k.ns n, r⟩
  b := let ⟨mb, n, r⟩ := G.b; ⟨mb, k.ns n, r⟩
theorem ev_bool {M : Model} {A : Around} {E : Value → Shared → Prop} {s : Shared} {env : Env} {b : Bool} {k : Nat} {pos : Pos} {Q : Value → Shared → Prop} (q : Q (.bool b) s) : wpAny M A (eval (.Constant (.bool b) k pos) env) Q E s := fun _ _ _ => q
theorem ev_int {M : Model} {A : Around} {E : Value → Shared → Prop} {s : Shared} {h : Heap} {t : Nat} {env : Env} {i : Int} {k : Nat} {pos : Pos} {Q : Value → Shared → Prop} (q : ∀ u tk, Q (.int i u) (st s h tk)) : wpAny M A (eval (.Constant (.int i) k pos) env) Q E (st s h t) := wpAny_Constant_int (q _ _)
def rmAll {α γ D : Type} [DecidableEq D] : List (α × D) → List (γ × D) → Option (List (γ × D))
  | [], qs => some qs
  | p :: r, qs => (rm1 p.2 qs).bind (rmAll r)
theorem rmAll_append {α γ D : Type} [DecidableEq D] : ∀ (l r : List (α × D)) (qs : List (γ × D)), rmAll (l ++ r) qs = (rmAll l qs).bind (rmAll r)
  | [], _, _ => rfl
  | p :: l, r, qs => by
    show (rm1 p.2 qs).bind (rmAll (l ++ r)) = ((rm1 p.2 qs).bind (rmAll l)).bind (rmAll r)
    cases rm1 p.2 qs with
    | none => rfl
    | some x => exact rmAll_append l r x
theorem rmAll_snoc {α γ D : Type} [DecidableEq D] (l : List (α × D)) (qs : List (γ × D)) (p : α × D) : rmAll (l ++ [p]) qs = (rmAll l qs).bind (rm1 p.2) := by
  rw [rmAll_append]
  cases rmAll l qs with
  | none => rfl
  | some x => show (rm1 p.2 x).bind (rmAll []) = rm1 p.2 x; cases rm1 p.2 x <;> rfl
theorem rm1_sub {α D : Type} [DecidableEq D] {d : D} {qs rs : List (α × D)} (h : rm1 d qs = some rs) : ∀ x ∈ rs, x ∈ qs := by
  obtain ⟨j, hj, _, _, rfl⟩ := rm1_some h
  exact fun x hx => List.mem_of_mem_eraseIdx hx
theorem rmAll_sub {α γ D : Type} [DecidableEq D] : ∀ {l : List (α × D)} {qs rs : List (γ × D)}, rmAll l qs = some rs → (∀ x ∈ rs, x ∈ qs) ∧ rs.length ≤ qs.length
  | [], qs, rs, h => by cases h; exact ⟨fun _ h => h, Nat.le_refl _⟩
  | p :: l, qs, rs, h => by
    obtain ⟨z, h1, h2⟩ := Option.bind_eq_some_iff.mp h
    obtain ⟨a, b⟩ := rmAll_sub h2
    refine ⟨fun x hx => rm1_sub h1 x (a x hx), ?_⟩
    obtain ⟨j, hj, _, _, rfl⟩ := rm1_some h1
    rw [List.length_eraseIdx_of_lt hj] at b
    omega
def cmpRes {α γ D : Type} [DecidableEq D] (ps : List (α × D)) (qs : List (γ × D)) : Bool := match rmAll ps qs with
  | none => false
  | some r => r.isEmpty
theorem rm1_map {α β D : Type} [DecidableEq D] (f : α → β) (d : D) : ∀ (qs : List (α × D)), rm1 d (qs.map fun p => (f p.1, p.2)) = (rm1 d qs).map (·.map fun p => (f p.1, p.2))
  | [] => rfl
  | q :: r => by
    show (if q.2 = d then some (r.map fun p => (f p.1, p.2)) else (rm1 d (r.map fun p => (f p.1, p.2))).map ((f q.1, q.2) :: ·)) = (if q.2 = d then some r else (rm1 d r).map (q :: ·)).map _
    split
    · rfl
    · rw [rm1_map f d r]; cases rm1 d r <;> rfl
theorem rmAll_map {α β γ δ D : Type} [DecidableEq D] (f : α → β) (g : γ → δ) : ∀ (ps : List (α × D)) (qs : List (γ × D)), (rmAll (ps.map fun p => (f p.1, p.2)) (qs.map fun p => (g p.1, p.2))).map (·.length) = (rmAll ps qs).map (·.length)
  | [], qs => congrArg some (List.length_map ..)
  | p :: r, qs => by
    show ((rm1 p.2 (qs.map fun p => (g p.1, p.2))).bind (rmAll (r.map fun p => (f p.1, p.2)))).map _ = ((rm1 p.2 qs).bind (rmAll r)).map _
    rw [rm1_map g]
    cases rm1 p.2 qs with
    | none => rfl
    | some x => exact rmAll_map f g r x
theorem cmpRes_map {α β γ δ D : Type} [DecidableEq D] (f : α → β) (g : γ → δ) (ps : List (α × D)) (qs : List (γ × D)) : cmpRes (ps.map fun p => (f p.1, p.2)) (qs.map fun p => (g p.1, p.2)) = cmpRes ps qs := by
  have e := rmAll_map f g ps qs
  unfold cmpRes
  cases h1 : rmAll (ps.map fun p => (f p.1, p.2)) (qs.map fun p => (g p.1, p.2)) <;> cases h2 : rmAll ps qs <;> rw [h1, h2] at e
  · cases e
  · cases e
  · rename_i a b
    have : a.length = b.length := by simpa using e
    cases a <;> cases b <;> first | rfl | (simp at this)
section
variable {prog : Program} {w : World} {A : Around} {E : Value → Shared → Prop} {s : Shared} {h : Heap} {t : Nat}
theorem compare_spec {D : Type} [DecidableEq D] (K : Kind D) {a b : Addr} {ps qs : List (Value × D)} {outer : List Env} {Q : Value → Shared → Prop}
    (hA : AOk 4 A) (hfr : A.frames = some outer) (hFF : h.FunFrames emp outer) (G : Gnd h)
    (hl : h.IsList a (ps.map (·.1)).toArray) (hp : ∀ p ∈ ps, K.Is h p.1 p.2) (hl' : h.IsList b (qs.map (·.1)).toArray) (hq : ∀ p ∈ qs, K.Is h p.1 p.2) (hsz : ps.length ≤ 1000) (hsz' : qs.length ≤ 1000)
    (q : ∀ h' tk, KpF (frs outer) h h' → Q (.bool (cmpRes (dd ps) (dd qs))) (st s h' tk)) :
    wpAny (model prog w) A (call (.ref 28) [.ref a, .ref b]) Q E (st s h t) := by
  refine call_def (hA.less (by omega)) G.lim G.f28 (binds := [(Str.ofString "first_args", .ref a), (Str.ofString "second_args", .ref b)]) (fun doc pm cd => BindsTo.of_eq (by rfl)) (fun doc pm cd L h₀ tk k₀ hL n₀ => ?_)
  have hA1 := hA.deeper (callEnv (fdOf (Str.ofString "_compare_args_orderless") (dpAt 2) .none doc pm cd) L 28)
  have hfr1 : (A.deeper (callEnv (fdOf (Str.ofString "_compare_args_orderless") (dpAt 2) .none doc pm cd) L 28)).frames = some (callEnv (fdOf (Str.ofString "_compare_args_orderless") (dpAt 2) .none doc pm cd) L 28 :: outer) := Around.frames_deeper hfr
  generalize hB : A.deeper (callEnv (fdOf (Str.ofString "_compare_args_orderless") (dpAt 2) .none doc pm cd) L 28) = B at hA1 hfr1 ⊢
  have FF : ∀ {h' : Heap} {m : Str → Option Value}, Kp h h' → h'.Ns L m → h'.FunFrames emp (callEnv (fdOf (Str.ofString "_compare_args_orderless") (dpAt 2) .none doc pm cd) L 28 :: outer) := fun k n => Heap.FunFrames.cons (by show (dpAt 2).scope.kind ≠ .module; decide) rfl n (emp_none _) ((KpF.of (F := []) k).funs hFF)
  -- first_unhashable
  refine wpAny_execs_cons (wpAny_Assign_Name (ev_call1 (G.mono k₀) (G.mono k₀).f21 (ev_local n₀ rfl ⟨Kp.refl _, dedup_spec K (hA1.less (by omega)) (G.mono k₀).lim (G.mono k₀).f21 (isList_kp k₀ hl) (fun p h => K.mono k₀ (hp p h)) hsz fun r h₁ t₁ k₁ hr l₁ => ?_⟩)))
  refine st_local (n₀.keeps k₁) (fun h₂ n₂ b₂ => ?_)
  have l₂ := l₁.extBut b₂.extBut (ns_ne n₀ hr).symm
  have kS2 : Kp h h₂ := KpB.kp (k₀.trans k₁) (KpB.same b₂) (by simpa using hL)
  -- second_unhashable
  refine wpAny_execs_cons (wpAny_Assign_Name (ev_call1 (G.mono kS2) (G.mono kS2).f21 (ev_local n₂ rfl ⟨Kp.refl _, dedup_spec K (hA1.less (by omega)) (G.mono kS2).lim (G.mono kS2).f21 (isList_kp kS2 hl') (fun p h => K.mono kS2 (hq p h)) hsz' fun r' h₃ t₃ k₃ hr' l₃ => ?_⟩)))
  refine st_local (n₂.keeps k₃) (fun h₄ n₄ b₄ => ?_)
  have l₄ := (plain_kp k₃ l₂).extBut b₄.extBut (ns_ne n₀ hr).symm
  have l₄' := l₃.extBut b₄.extBut (ns_ne n₂ hr').symm
  have kS4 : Kp h h₄ := KpB.kp (kS2.trans k₃) (KpB.same b₄) (by simpa using hL)
  -- t
  refine wpAny_execs_cons (wpAny_Assign_Name (ev_type1 (G.mono kS4) boot_list (ev_local n₄ rfl (do_list l₄'.isList ?_ fun r'' h₅ k₅ hr'' l₅ => ?_))))
  · have := dd_length qs; rw [List.length_map]; omega
  refine st_local (n₄.keeps k₅) (fun h₆ n₆ b₆ => ?_)
  have hLr : r ≠ L := (ns_ne n₀ hr).symm
  have hLr'' : r'' ≠ L := (ns_ne n₄ hr'').symm
  have l₆ := (plain_kp k₅ l₄).extBut b₆.extBut hLr
  have l₆'' := l₅.extBut b₆.extBut hLr''
  have kS6 : Kp h h₆ := KpB.kp (kS4.trans k₅) (KpB.same b₆) (by simpa using hL)
  have hr0 : h.get? r = none := none_of_kp k₀ hr
  have hr0'' : h.get? r'' = none := none_of_kp kS4 hr''
  have hrr : r ≠ r'' := plain_ne l₄ hr''
  have new : ∀ x ∈ [L, r''], h.get? x = none := by
    simp only [List.mem_cons, List.not_mem_nil, or_false, forall_eq_or_imp, forall_eq]; exact ⟨hL, hr0''⟩
  refine wpAny_execs_cons (try_VE (L := L) rfl ?_)
  refine wpAny_execs_cons (for_listE hA1.hh [L, r'']
    (fun i h => (∃ m, h.Ns L m ∧ m (Str.ofString "t") = some (.ref r'')) ∧ ∃ rs, rmAll ((dd ps).take i) (dd qs) = some rs ∧ h.PlainList r'' (rs.map (·.1)).toArray) ?_ (fun q => ev_local n₆ rfl q) l₆.isList ?_ ?_ ?_ ?_ ?_)
  · rintro i h h' ⟨⟨m, n, e⟩, rs, e', l⟩ k
    exact ⟨⟨m, n.at' fun o x => k L (by simp) o x, e⟩, rs, e', l.at fun o x => k r'' (by simp) o x⟩
  · simp only [List.mem_cons, List.not_mem_nil, or_false, not_or]; exact ⟨hLr, hrr⟩
  · intro x hx
    rcases List.mem_cons.mp hx with rfl | hx
    · obtain ⟨o, _, _, ho, _⟩ := n₆; exact ⟨o, ho⟩
    · rw [List.mem_singleton.mp hx]; obtain ⟨_, ho⟩ := l₆''; exact ⟨_, ho⟩
  · exact ⟨⟨_, n₆, if_pos rfl⟩, _, rfl, l₆''⟩
  · rintro i v h₇ tk₇ hv kb ⟨⟨m, n₇, hm⟩, rs, hrs, l₇⟩
    refine wpAny_assign_Name (st_local n₇ fun h₈ n₈ b₈ => ?_)
    have l₈ := l₇.extBut b₈.extBut hLr''
    have hv' : ∃ p, (dd ps)[i]? = some p ∧ p.1 = v := by simpa using hv
    obtain ⟨p, hpi, rfl⟩ := hv'
    have hmem : p ∈ ps := mem_dd _ _ (List.mem_of_getElem? hpi)
    have k78 : KpB [L, r''] h₇ h₈ := (KpB.same b₈).more (by simp)
    have kS8 : Kp h h₈ := KpB.kp kS6 (kb.trans k78) new
    have htake : (dd ps).take (i + 1) = (dd ps).take i ++ [p] := by rw [List.take_add_one, hpi]; rfl
    have hsub := rmAll_sub hrs
    have hrsI : ∀ x ∈ rs, K.Is h₈ x.1 x.2 := fun x hx => K.mono kS8 (hq x (mem_dd _ _ (hsub.1 x hx)))
    have hdl := dd_length qs
    refine wpAny_execs_cons (wpAny_Expr (ev_meth1 PySem.F.slot_list_remove PySem.F.type_list_remove (ev_local n₈ ((if_neg (by decide)).trans hm) ⟨rfl, l₈, ev_local n₈ (if_pos rfl) ?_⟩)))
    cases hc : rm1 p.2 rs with
    | some rs' =>
      refine do_remove K (by have := hA1.hu; omega) l₈ hrsI (K.mono kS8 (hp p hmem)) hc (by omega) (fun h₉ l₉ b₉ => ?_)
      refine wpAny_execs_nil ⟨h₉, _, rfl, k78.trans ((KpB.same b₉).more (by simp)), ⟨_, n₈.sameBut b₉ hLr''.symm, (if_neg (by decide)).trans hm⟩, rs', ?_, l₉⟩
      rw [htake, rmAll_snoc, hrs]; exact hc
    | none =>
      refine do_remove_miss K hA1.hh (by have := hA1.hu; omega) l₈ hrsI (K.mono kS8 (hp p hmem)) hc (fun h₉ tk₉ e hx => ?_)
      refine come_back hfr1 (FF kS8 n₈) rfl hx (fun h' T hT kf H => ?_)
      have hTh : h.get? T = none := none_of_kp kS8 hT
      have kfh : KpF (frs outer) h h' := ⟨fun b o hb e => ?_, fun b o hb e => kf.fr b o ?_ (kS8 b o e)⟩
      · have kT : ∀ {h₂ : Heap}, KpB [T] h' h₂ → KpF (frs outer) h h₂ := fun kb => ⟨fun b o hb e => kb b o (by simp; rintro rfl; rw [hTh] at e; cases e) (kfh.but b o hb e), fun b o hb e => let ⟨sl, z⟩ := kfh.fr b o hb e; ⟨sl, kb b _ (by simp; rintro rfl; rw [hTh] at e; cases e) z⟩⟩
        refine ⟨e, h', _, T, rfl, rfl, H, fun h₂ kb => ?_, fun h₂ E' kb => ?_⟩
        · exact G.monoF (kT kb)
        · refine wpAny_execs_cons (wpAny_Return_some (ev_bool ?_))
          have hnone : cmpRes (dd ps) (dd qs) = false := by
            have e1 : dd ps = (dd ps).take (i + 1) ++ (dd ps).drop (i + 1) := (List.take_append_drop ..).symm
            have e2 : rmAll (dd ps) (dd qs) = none := by
              rw [e1, htake, rmAll_append, rmAll_snoc, hrs, Option.bind_some, hc]; rfl
            unfold cmpRes
            rw [e2]
          have q' := q h₂ tk₉ (kT kb)
          rw [hnone] at q'
          exact q'
      · refine kf.but b o (fun hm => ?_) (kS8 b o e)
        rcases List.mem_cons.mp hm with z | z
        · rw [z, hL] at e; cases e
        · exact hb z
      · exact List.mem_cons_of_mem _ hb
  · rintro h₇ tk₇ kb ⟨⟨m, n₇, hm⟩, rs, hrs, l₇⟩
    refine wpAny_execs_nil (wpAny_execs_cons (wpAny_Return_some (wpAny_UnaryOp (ev_local n₇ hm (not_of (do_truthy l₇.isList ?_ fun tk => ?_))))))
    · have := (rmAll_sub hrs).2; have := dd_length qs; rw [List.length_map]; omega
    · have hrs' : rmAll (dd ps) (dd qs) = some rs := by rw [← hrs]; congr 1; simp
      have : cmpRes (dd ps) (dd qs) = rs.isEmpty := by unfold cmpRes; rw [hrs']
      have q' := q h₇ tk (.of (KpB.kp kS6 kb new))
      rw [this] at q'
      simpa using q'
end
end Mine
end
section
open PySem PySem.W PyProof.Rows PySem.SeqAt
set_option maxRecDepth 100000
set_option maxHeartbeats 4000000
namespace Mine
def lexLt : List Int → List Int → Bool
  | [], ys => !ys.isEmpty
  | _ :: _, [] => false
  | x :: xs, y :: ys => if x = y then lexLt xs ys else decide (x < y)
theorem lexLt_nil (ms : List Int) : lexLt [] ms = decide (0 < ms.length) := by cases ms <;> simp [lexLt]
theorem lexLt_to_nil (ms : List Int) : lexLt ms [] = false := by cases ms <;> rfl
theorem ints_at {vs : List Value} {ns : List Int} (hi : IntsAre vs ns) {i : Nat} (h : i < ns.length) : ∃ t, vs[i]? = some (.int ns[i] t) := hi.get i ns[i] (by simp [h])
open MeetsSeq AutoSeq1 MeetsSeq3 in
theorem lt_loop (l b : Addr) (vs us : List Value) (ns ms : List Int) (hi : IntsAre vs ns) (hj : IntsAre us ms) (n n2 : Nat) (dd dd2 : Option Addr) (sl sl2 : Array (Option Value)) (k : Nat) :
    ∀ i : Nat, ns.length - i = k → Meets (Builtin.«list.__eq__.loop» ⟨[.ref l, .ref b, rawInt i, rawInt 0], []⟩)
      (fun _ R s => s.heap.get? l = some { cls := .type "list", dict := dd, data := .seq vs.toArray n, slots := sl } ∧ s.heap.get? b = some { cls := .type "list", dict := dd2, data := .seq us.toArray n2, slots := sl2 } ∧
        (i ≤ ns.length ∧ i ≤ ms.length) ∧ R (.ok (.ret (.bool (lexLt (ns.drop i) (ms.drop i))))) s) := by
  have hvl := hi.length
  have hul := hj.length
  induction k with
  | zero =>
    intro i hk prog w A R s h
    obtain ⟨hp, g, d, tk, os⟩ := s
    obtain ⟨hl, hb, hle, h⟩ := h
    wp_walk using wpAny_loadPart' hl, wpAny_loadPart' hb
    have h1 : (vs.toArray)[((i : Nat) : Int).toNat]? = none := by simp; omega
    rw [h1]
    wp_walk using wpAny_loadPart' hl, wpAny_loadPart' hb
    have e : lexLt (ns.drop i) (ms.drop i) = decide (vs.toArray.size < us.toArray.size) := by
      rw [List.drop_of_length_le (l := ns) (by omega)]
      rw [lexLt_nil, List.length_drop]
      exact decide_eq_decide.mpr (by simp; omega)
    rw [e] at h
    exact h
  | succ k ih =>
    intro i hk prog w A R s h
    obtain ⟨hp, g, d, tk, os⟩ := s
    obtain ⟨hl, hb, hle, h⟩ := h
    have hlt : i < ns.length := by omega
    obtain ⟨t, ht⟩ := ints_at hi hlt
    wp_walk using wpAny_loadPart' hl, wpAny_loadPart' hb
    have h1 : (vs.toArray)[((i : Nat) : Int).toNat]? = some (.int ns[i] t) := by simpa using ht
    rw [h1]
    by_cases h2 : i < ms.length
    · obtain ⟨u, hu'⟩ := ints_at hj h2
      have h3 : (us.toArray)[((i : Nat) : Int).toNat]? = some (.int ms[i] u) := by simpa using hu'
      rw [h3]
      rw [List.drop_eq_getElem_cons hlt, List.drop_eq_getElem_cons h2] at h
      refine wpAny_bind (wpAny_eqBool_int ?_)
      by_cases he : ns[i] = ms[i]
      · rw [lexLt, if_pos he] at h
        rw [if_pos (by simpa using he)]
        wp_walk
        rw [show ((i : Int) + 1) = ((i + 1 : Nat) : Int) by push_cast; rfl]
        exact ⟨plainId_quiet plain_eq_loop _, codeAny_builtin entry_eq_loop (by
          rw [Around.under_plainId plain_eq_loop _]
          exact ih (i + 1) (by omega) prog w A R _ ⟨hl, hb, ⟨hlt, h2⟩, h⟩)⟩
      · rw [lexLt, if_neg he] at h
        rw [if_neg (by simpa using he)]
        wp_walk using wpAny_loadPart' hl, wpAny_loadPart' hb
        rw [h1, h3]
        refine wpAny_bind (wpAny_lt_int ?_)
        wp_walk
        exact h
    · have h3 : (us.toArray)[((i : Nat) : Int).toNat]? = none := by simp; omega
      rw [h3]
      wp_walk using wpAny_loadPart' hl, wpAny_loadPart' hb
      have e : lexLt (ns.drop i) (ms.drop i) = decide (vs.toArray.size < us.toArray.size) := by
        rw [List.drop_of_length_le (l := ms) (by omega)]
        rw [lexLt_to_nil]
        exact (decide_eq_false (by simp; omega)).symm
      rw [e] at h
      exact h
open MeetsSeq AutoSeq1 MeetsSeq3 in
theorem list_lt (l b : Addr) (vs us : List Value) (ns ms : List Int) (hi : IntsAre vs ns) (hj : IntsAre us ms) (n n2 : Nat) (dd dd2 : Option Addr) (sl sl2 : Array (Option Value)) :
    Meets (Builtin.«list.__lt__» ⟨[.ref l, .ref b], []⟩)
      (fun _ R s => s.heap.get? l = some { cls := .type "list", dict := dd, data := .seq vs.toArray n, slots := sl } ∧ s.heap.get? b = some { cls := .type "list", dict := dd2, data := .seq us.toArray n2, slots := sl2 } ∧
        R (.ok (.ret (.bool (lexLt ns ms)))) s) := by
  intro prog w A R s h
  obtain ⟨hp, g, d, tk, os⟩ := s
  obtain ⟨hl, hb, h⟩ := h
  have f3 := AutoSeq1.sub_list_list
  wp_walk using wpAny_loadPart' hl, wpAny_loadPart' hb
  exact ⟨plainId_quiet plain_eq_loop _, codeAny_builtin entry_eq_loop (by
    rw [Around.under_plainId plain_eq_loop _]
    exact lt_loop l b vs us ns ms hi hj n n2 dd dd2 sl sl2 _ 0 rfl prog w A R _ ⟨hl, hb, ⟨Nat.zero_le _, Nat.zero_le _⟩, h⟩)⟩
theorem do_lt {prog : Program} {w : World} {A : Around} {E : Value → Shared → Prop} {s : Shared} {x y : Value} {ns ms : List Int} {Q : Value → Shared → Prop} (hu : A.units < cLine) (p : RowAt s.heap x ns) (q : RowAt s.heap y ms)
    (h : Q (.bool (lexLt ns ms)) s) : wpAny (model prog w) A (compareOp .Lt x y) Q E s := by
  obtain ⟨a, vs, rfl, hl, hi⟩ := p
  obtain ⟨b, us, rfl, hl', hi'⟩ := q
  have hl := hl.isList
  have hl' := hl'.isList
  obtain ⟨⟨cls, dd, data, sl⟩, ho, hc, n, hd⟩ := id hl
  obtain ⟨⟨cls2, dd2, data2, sl2⟩, ho2, hc2, n2, hd2⟩ := id hl'
  simp only at hc hd hc2 hd2
  subst hc hd hc2 hd2
  exact richCompare_meets_room (op := .Lt) ⟨_, ho, rfl⟩ ⟨_, ho2, rfl⟩ PySem.F.slot_list_lt PySem.F.entry_list_lt (PySem.F.args_list_lt_2 _ _) (list_lt a b vs us ns ms hi hi' n n2 dd dd2 sl sl2) ⟨ho, ho2, ⟨(by intro z; cases z), h⟩⟩ hu
open MeetsSeq AutoSeq1 MeetsSeq3 in
theorem gt_loop (l b : Addr) (vs us : List Value) (ns ms : List Int) (hi : IntsAre vs ns) (hj : IntsAre us ms) (n n2 : Nat) (dd dd2 : Option Addr) (sl sl2 : Array (Option Value)) (k : Nat) :
    ∀ i : Nat, ns.length - i = k → Meets (Builtin.«list.__eq__.loop» ⟨[.ref l, .ref b, rawInt i, rawInt 4], []⟩)
      (fun _ R s => s.heap.get? l = some { cls := .type "list", dict := dd, data := .seq vs.toArray n, slots := sl } ∧ s.heap.get? b = some { cls := .type "list", dict := dd2, data := .seq us.toArray n2, slots := sl2 } ∧
        (i ≤ ns.length ∧ i ≤ ms.length) ∧ R (.ok (.ret (.bool (lexLt (ms.drop i) (ns.drop i))))) s) := by
  have hvl := hi.length
  have hul := hj.length
  induction k with
  | zero =>
    intro i hk prog w A R s h
    obtain ⟨hp, g, d, tk, os⟩ := s
    obtain ⟨hl, hb, hle, h⟩ := h
    wp_walk using wpAny_loadPart' hl, wpAny_loadPart' hb
    have h1 : (vs.toArray)[((i : Nat) : Int).toNat]? = none := by simp; omega
    rw [h1]
    wp_walk using wpAny_loadPart' hl, wpAny_loadPart' hb
    have e : lexLt (ms.drop i) (ns.drop i) = decide (vs.toArray.size > us.toArray.size) := by
      rw [List.drop_of_length_le (l := ns) (by omega)]
      rw [lexLt_to_nil]
      exact (decide_eq_false (by simp; omega)).symm
    rw [e] at h
    exact h
  | succ k ih =>
    intro i hk prog w A R s h
    obtain ⟨hp, g, d, tk, os⟩ := s
    obtain ⟨hl, hb, hle, h⟩ := h
    have hlt : i < ns.length := by omega
    obtain ⟨t, ht⟩ := ints_at hi hlt
    wp_walk using wpAny_loadPart' hl, wpAny_loadPart' hb
    have h1 : (vs.toArray)[((i : Nat) : Int).toNat]? = some (.int ns[i] t) := by simpa using ht
    rw [h1]
    by_cases h2 : i < ms.length
    · obtain ⟨u, hu'⟩ := ints_at hj h2
      have h3 : (us.toArray)[((i : Nat) : Int).toNat]? = some (.int ms[i] u) := by simpa using hu'
      rw [h3]
      rw [List.drop_eq_getElem_cons hlt, List.drop_eq_getElem_cons h2] at h
      refine wpAny_bind (wpAny_eqBool_int ?_)
      by_cases he : ns[i] = ms[i]
      · rw [lexLt, if_pos he.symm] at h
        rw [if_pos (by simpa using he)]
        wp_walk
        rw [show ((i : Int) + 1) = ((i + 1 : Nat) : Int) by push_cast; rfl]
        exact ⟨plainId_quiet plain_eq_loop _, codeAny_builtin entry_eq_loop (by
          rw [Around.under_plainId plain_eq_loop _]
          exact ih (i + 1) (by omega) prog w A R _ ⟨hl, hb, ⟨hlt, h2⟩, h⟩)⟩
      · rw [lexLt, if_neg (Ne.symm he)] at h
        rw [if_neg (by simpa using he)]
        wp_walk using wpAny_loadPart' hl, wpAny_loadPart' hb
        rw [h1, h3]
        refine wpAny_bind (PyProof.Rows.gt_int ?_)
        wp_walk
        exact h
    · have h3 : (us.toArray)[((i : Nat) : Int).toNat]? = none := by simp; omega
      rw [h3]
      wp_walk using wpAny_loadPart' hl, wpAny_loadPart' hb
      have e : lexLt (ms.drop i) (ns.drop i) = decide (vs.toArray.size > us.toArray.size) := by
        rw [List.drop_of_length_le (l := ms) (by omega)]
        rw [lexLt_nil, List.length_drop]
        exact decide_eq_decide.mpr (by simp; omega)
      rw [e] at h
      exact h
open MeetsSeq AutoSeq1 MeetsSeq3 in
theorem list_gt (l b : Addr) (vs us : List Value) (ns ms : List Int) (hi : IntsAre vs ns) (hj : IntsAre us ms) (n n2 : Nat) (dd dd2 : Option Addr) (sl sl2 : Array (Option Value)) :
    Meets (Builtin.«list.__gt__» ⟨[.ref l, .ref b], []⟩)
      (fun _ R s => s.heap.get? l = some { cls := .type "list", dict := dd, data := .seq vs.toArray n, slots := sl } ∧ s.heap.get? b = some { cls := .type "list", dict := dd2, data := .seq us.toArray n2, slots := sl2 } ∧
        R (.ok (.ret (.bool (lexLt ms ns)))) s) := by
  intro prog w A R s h
  obtain ⟨hp, g, d, tk, os⟩ := s
  obtain ⟨hl, hb, h⟩ := h
  have f3 := AutoSeq1.sub_list_list
  wp_walk using wpAny_loadPart' hl, wpAny_loadPart' hb
  exact ⟨plainId_quiet plain_eq_loop _, codeAny_builtin entry_eq_loop (by
    rw [Around.under_plainId plain_eq_loop _]
    exact gt_loop l b vs us ns ms hi hj n n2 dd dd2 sl sl2 _ 0 rfl prog w A R _ ⟨hl, hb, ⟨Nat.zero_le _, Nat.zero_le _⟩, h⟩)⟩
theorem do_gt {prog : Program} {w : World} {A : Around} {E : Value → Shared → Prop} {s : Shared} {x y : Value} {ns ms : List Int} {Q : Value → Shared → Prop} (hu : A.units < cLine) (p : RowAt s.heap x ns) (q : RowAt s.heap y ms)
    (h : Q (.bool (lexLt ms ns)) s) : wpAny (model prog w) A (compareOp .Gt x y) Q E s := by
  obtain ⟨a, vs, rfl, hl, hi⟩ := p
  obtain ⟨b, us, rfl, hl', hi'⟩ := q
  have hl := hl.isList
  have hl' := hl'.isList
  obtain ⟨⟨cls, dd, data, sl⟩, ho, hc, n, hd⟩ := id hl
  obtain ⟨⟨cls2, dd2, data2, sl2⟩, ho2, hc2, n2, hd2⟩ := id hl'
  simp only at hc hd hc2 hd2
  subst hc hd hc2 hd2
  exact richCompare_meets_room (op := .Gt) ⟨_, ho, rfl⟩ ⟨_, ho2, rfl⟩ PySem.F.slot_list_gt PySem.F.entry_list_gt (PySem.F.args_list_gt_2 _ _) (list_gt a b vs us ns ms hi hi' n n2 dd dd2 sl sl2) ⟨ho, ho2, ⟨(by intro z; cases z), h⟩⟩ hu
end Mine
end
section
open PySem PySem.W PyProof.Rows PySem.SeqAt
set_option maxRecDepth 100000
set_option maxHeartbeats 4000000
namespace Mine
def pick {α : Type} (b p : α × List Int) : α × List Int := if lexLt p.2 b.2 then p else b
def best {α : Type} (d : α × List Int) : List (α × List Int) → α × List Int
  | [] => d
  | p :: r => r.foldl pick p
theorem best_snoc {α : Type} (d p : α × List Int) (l : List (α × List Int)) (hl : l ≠ []) : best d (l ++ [p]) = pick (best d l) p := by
  cases l with
  | nil => exact absurd rfl hl
  | cons a r => show (r ++ [p]).foldl pick a = pick (r.foldl pick a) p; rw [List.foldl_append]; rfl
theorem mem_best {α : Type} (d : α × List Int) (l : List (α × List Int)) (hl : l ≠ []) : best d l ∈ l := by
  revert hl
  refine snocInd (P := fun l => l ≠ [] → best d l ∈ l) (fun h => absurd rfl h) (fun l p ih _ => ?_) l
  by_cases h : l = []
  · subst h; exact List.mem_singleton.mpr rfl
  · rw [best_snoc d p l h]
    unfold pick
    split
    · simp
    · exact List.mem_append.mpr (.inl (ih h))
section
variable {prog : Program} {w : World} {M : Model} {A : Around} {E : Value → Shared → Prop} {R : Result → Shared → Prop} {s : Shared} {h : Heap} {t : Nat} {env : Env}
theorem min_loop {h₀ : Heap} {a I S : Addr} {ps : List (Value × List Int)} (d : Value × List Int) (hA : A.handled = none) (hu : A.units + 4 < cLine) (hp : ∀ p ∈ ps, RowAt h₀ p.1 p.2) (haI : a ≠ I) (haS : a ≠ S) (hIS : I ≠ S) (hI0 : h₀.get? I = none) (hS0 : h₀.get? S = none) :
    ∀ (k j : Nat) (h : Heap) (t c : Nat), ps.length - (j + 1) = k → j + 1 ≤ ps.length → Kp h₀ h → h.IsListIter I a (j + 1) → h.IsList a (ps.map (·.1)).toArray →
      h.get? S = some { cls := .type "list", data := .seq #[(best d (ps.take (j + 1))).1, (best d (ps.take (j + 1))).1] c } →
      (∀ h' t', Kp h₀ h' → R (.ok (.ret (best d ps).1)) (st s h' t')) → codeAny (model prog w) A (.builtin "min.loop" ⟨[.ref I, .none, .ref S], []⟩) R (st s h t) := by
  have hname : (toString "min" ++ toString ".loop" : String) = "min.loop" := by decide
  have W := Walks.list (prog := prog) (w := w) (A := A.in1) hA I a haI (ps.map (·.1)).toArray
  have hn : (ps.map (·.1)).toArray.size = ps.length := by simp
  have kpS : ∀ {h h' : Heap}, Kp h₀ h → Heap.SameBut S h h' → Kp h₀ h' := fun k b => KpB.kp k (KpB.same b) (by simpa using hS0)
  have kpI : ∀ {h h' : Heap}, Kp h₀ h → (∀ b o, b ∉ [I] → h.get? b = some o → h'.get? b = some o) → Kp h₀ h' := fun k b => KpB.kp k b (by simpa using hI0)
  intro k
  induction k with
  | zero =>
    intro j h t c hk hj k₀ hit hl hS q
    have hin : j + 1 = ps.length := by omega
    refine codeAny_builtin PySem.F.entry_min_loop ?_
    rw [Around.under_plainId PySem.F.plain_min_loop _]
    show wpAny _ A.in1 (seqItems? (.ref S) >>= _) _ _ (st s h t)
    refine wpAny_bind (wpAny_seqItems (s := st s h t) hS rfl ?_)
    show wpAny _ A.in1 (tryCatch (pyNext (.ref I)) _ >>= _) _ _ (st s h t)
    refine wpAny_bind (wpAny_tryCatch (W.done (st s h t) _ _ (by rw [hn, ← hin]; exact ⟨hit, hl⟩) fun h₁ t₁ hk₁ => ?_))
    have hS' := hk₁ S _ (by simp [hIS.symm]) hS
    show wpAny _ A.in1 (updateSeq S (fun _ => #[]) >>= _) _ _ (st s h₁ t₁)
    refine wpAny_bind (wpAny_updateSeq (s := st s h₁ t₁) hS' rfl (wpAny_bind (wpAny_letGo (wpAny_pure ?_))))
    have := q (h₁.update S (Obj.mapSeq fun _ => #[])) t₁ (kpS (kpI k₀ hk₁) (Heap.SameBut.update ..))
    rw [show best d (ps.take (j + 1)) = best d ps by rw [hin, List.take_length]]
    exact this
  | succ k ih =>
    intro j h t c hk hj k₀ hit hl hS q
    have hlt : j + 1 < ps.length := by omega
    have hne : ps.take (j + 1) ≠ [] := by intro e; have := congrArg List.length e; rw [List.length_take, List.length_nil] at this; omega
    refine codeAny_builtin PySem.F.entry_min_loop ?_
    rw [Around.under_plainId PySem.F.plain_min_loop _]
    show wpAny _ A.in1 (seqItems? (.ref S) >>= _) _ _ (st s h t)
    refine wpAny_bind (wpAny_seqItems (s := st s h t) hS rfl ?_)
    show wpAny _ A.in1 (tryCatch (pyNext (.ref I)) _ >>= _) _ _ (st s h t)
    refine wpAny_bind (wpAny_tryCatch (W.item (j + 1) (st s h t) _ _ (by rw [hn]; exact hlt) ⟨hit, hl⟩ fun v h₁ t₁ hP st₁ hk₁ => ?_))
    have hS' := hk₁ S _ (by simp [hIS.symm]) hS
    have k₁ := kpI k₀ hk₁
    have hv : (ps[j + 1]).1 = v := by
      have : (ps.map (·.1)).toArray[j + 1]? = some v := hP
      simpa [hlt] using this
    subst hv
    have hb := mem_best d _ hne
    have htake : ps.take (j + 1 + 1) = ps.take (j + 1) ++ [ps[j + 1]] := by rw [List.take_add_one]; simp [hlt]
    show wpAny _ A.in1 (tryCatch (holding [(ps[j + 1]).1, (ps[j + 1]).1] (richCompare .Lt (ps[j + 1]).1 (best d (ps.take (j + 1))).1 >>= _)) _ >>= _) _ _ (st s h₁ t₁)
    refine wpAny_bind (wpAny_tryCatch (wpAny_holding (wpAny_bind (do_lt (s := st s h₁ t₁) (by show A.units + 1 < cLine; omega) ((hp _ (List.getElem_mem hlt)).mono k₁) ((hp _ (List.mem_of_mem_take hb)).mono k₁) ?_))))
    refine wpAny_bind (wpAny_holding (wpAny_truthy_bool ?_))
    refine wpAny_bind (wpAny_letGo (wpAny_pure ?_))
    cases hc : lexLt (ps[j + 1]).2 (best d (ps.take (j + 1))).2 with
    | true =>
      have e : best d (ps.take (j + 1 + 1)) = ps[j + 1] := by rw [htake, best_snoc _ _ _ hne]; unfold pick; rw [if_pos hc]
      simp only [if_true]
      refine wpAny_bind (wpAny_updateSeq (s := st s h₁ t₁) hS' rfl (wpAny_bind (wpAny_letGo ?_)))
      rw [hname]
      have sb : Heap.SameBut S h₁ (h₁.update S (Obj.mapSeq fun _ => #[(ps[j + 1]).1, (ps[j + 1]).1])) := Heap.SameBut.update ..
      refine wpAny_pure ⟨plainId_quiet PySem.F.plain_min_loop _, ih (j + 1) _ _ c (by omega) hlt (kpS k₁ sb) (st₁.1.extBut sb.extBut hIS) (st₁.2.extBut sb.extBut haS) ?_ q⟩
      rw [e]
      exact Heap.get?_update_self _ hS' rfl
    | false =>
      have e : best d (ps.take (j + 1 + 1)) = best d (ps.take (j + 1)) := by rw [htake, best_snoc _ _ _ hne]; unfold pick; rw [if_neg (by rw [hc]; decide)]
      simp only [Bool.false_eq_true, if_false]
      refine wpAny_bind (wpAny_letGo ?_)
      rw [hname]
      exact wpAny_pure ⟨plainId_quiet PySem.F.plain_min_loop _, ih (j + 1) _ _ c (by omega) hlt k₁ st₁.1 st₁.2 (by rw [e]; exact hS') q⟩
theorem do_min {a : Addr} {ps : List (Value × List Int)} (d : Value × List Int) {Q : Value → Shared → Prop} (hA : A.handled = none) (hu : A.units + 4 < cLine) (hl : h.IsList a (ps.map (·.1)).toArray) (hp : ∀ p ∈ ps, RowAt h p.1 p.2) (hne : ps ≠ [])
    (q : ∀ h' t', Kp h h' → Q (best d ps).1 (st s h' t')) : wpAny (model prog w) A (call (.builtin "min") [.ref a]) Q E (st s h t) := by
  have hname : (toString "min" ++ toString ".loop" : String) = "min.loop" := by decide
  have hpos : 0 < ps.length := List.length_pos_iff.mpr hne
  refine call_function_tree PySem.F.kind_min PySem.F.plain_min PySem.F.entry_min (PySem.F.args_min1 _) ?_
  show wpAny _ A.in1 (Builtin.Builtins.bindParams "min" ["key", "default"] 0 ⟨[], []⟩ >>= _) _ _ (st s h t)
  refine wpAny_bind (wpAny_of_eq (show Builtin.Builtins.bindParams "min" ["key", "default"] 0 ⟨[], []⟩ = pure [none, none] from rfl) ?_)
  refine wpAny_bind (wpAny_pure ?_)
  refine wpAny_bind (it_list hl fun I h₁ k₁ hI hit => ?_)
  refine wpAny_bind (ev_newList (vs := []) fun S h₂ k₂ hS hSl => ?_)
  rw [hname]
  obtain ⟨c, hSo⟩ := hSl
  have haI : a ≠ I := iter_ne hl hI
  have hS0 := none_of_kp k₁ hS
  have haS : a ≠ S := iter_ne hl hS0
  have hIS : I ≠ S := let ⟨_, e, _⟩ := hit; ne_of_none e hS
  have W := Walks.list (prog := prog) (w := w) (A := A.in1) hA I a haI (ps.map (·.1)).toArray
  have hn : (ps.map (·.1)).toArray.size = ps.length := by simp
  refine wpAny_pure ⟨plainId_quiet PySem.F.plain_min_loop _, codeAny_builtin PySem.F.entry_min_loop ?_⟩
  rw [Around.under_plainId PySem.F.plain_min_loop _]
  show wpAny _ A.in1 (seqItems? (.ref S) >>= _) _ _ (st s h₂ t)
  refine wpAny_bind (wpAny_seqItems (s := st s h₂ t) hSo rfl ?_)
  show wpAny _ A.in1 (tryCatch (pyNext (.ref I)) _ >>= _) _ _ (st s h₂ t)
  refine wpAny_bind (wpAny_tryCatch (W.item 0 (st s h₂ t) _ _ (by rw [hn]; exact hpos) ⟨hit.at fun o e => k₂ _ o e, isList_kp (k₁.trans k₂) hl⟩ fun v h₃ t₃ hP st₃ hk₃ => ?_))
  have hS3 := hk₃ S _ (by simp [hIS.symm]) hSo
  have k₃ : Kp h h₃ := KpB.kp (k₁.trans k₂) hk₃ (by simpa using hI)
  have hv : (ps[0]).1 = v := by
    have : (ps.map (·.1)).toArray[0]? = some v := hP
    simpa [hpos] using this
  subst hv
  show wpAny _ A.in1 (updateSeq S (fun _ => #[(ps[0]).1, (ps[0]).1]) >>= _) _ _ (st s h₃ t₃)
  refine wpAny_bind (wpAny_updateSeq (s := st s h₃ t₃) hS3 rfl ?_)
  rw [hname]
  have sb : Heap.SameBut S h₃ (h₃.update S (Obj.mapSeq fun _ => #[(ps[0]).1, (ps[0]).1])) := Heap.SameBut.update ..
  have e1 : best d (ps.take (0 + 1)) = ps[0] := by
    cases ps with
    | nil => exact absurd rfl hne
    | cons p r => rfl
  refine wpAny_pure ⟨plainId_quiet PySem.F.plain_min_loop _, min_loop (h₀ := h) (a := a) (I := I) (S := S) d hA hu hp haI haS hIS hI hS0 _ 0 _ _ (c + 1) rfl hpos (KpB.kp k₃ (KpB.same sb) (by simpa using hS0)) (st₃.1.extBut sb.extBut hIS) (st₃.2.extBut sb.extBut haS) ?_ q⟩
  rw [e1]
  exact Heap.get?_update_self _ hS3 rfl
/-- l.index(x): the first of that content -/
theorem do_index {D : Type} [DecidableEq D] (K : Kind D) {l : Addr} {qs : List (Value × D)} {x : Value} {d : D} {j : Nat} {Q : Value → Shared → Prop} (hu : A.units + 68 < cLine) (hl : h.IsList l (qs.map (·.1)).toArray) (hq : ∀ q ∈ qs, K.Is h q.1 q.2) (hx : K.Is h x d)
    (hj : j < qs.length) (hit : (qs[j]).2 = d) (hno : ∀ m (hm : m < qs.length), m < j → (qs[m]).2 ≠ d) (hsz : qs.length ≤ 1000)
    (q : ∀ u tk, Q (.int j u) (st s h tk)) :
    wpAny (model prog w) A (call (.builtin "list.index") [.ref l, x]) Q E (st s h t) := by
  obtain ⟨⟨cls, dd, data, sl⟩, ho, hc, n, hd⟩ := id hl
  simp only at hc hd
  subst hc hd
  have at' : ∀ m (hm : m < ((qs.map (fun p : Value × D => p.1)).toArray).size), eqTo K h d ((qs.map (fun p : Value × D => p.1)).toArray)[m] = decide ((qs[m]'(by simpa using hm)).2 = d) := fun m hm => by
    simp only [List.getElem_toArray, List.getElem_map]
    exact eqTo_is (hq _ (List.getElem_mem _))
  refine call_meets (s := st s h t) PySem.F.slot_list_index ⟨_, ho, rfl⟩ PySem.F.entry_list_index (PySem.F.args_list_index_2 _ _) (list_indexAt l (qs.map (fun p : Value × D => p.1)).toArray n dd sl x (eqTo K h d) j (by simpa using hj) (by omega) ?_ ?_) ⟨ho, ?_, ?_⟩
  · rw [at']; exact decide_eq_true hit
  · intro m hm hmj
    rw [at']; exact decide_eq_false (hno m (by simpa using hm) hmj)
  · intro y hy
    obtain ⟨p, hp, rfl⟩ := List.mem_map.mp (List.mem_toArray.mp hy)
    rw [eqTo_is (hq p hp)]
    exact K.eq (by show A.units + 1 + 66 < cLine; omega) (hq p hp) hx
  · exact q t (t + 1)
end
end Mine
end
section
open PySem PySem.W PyProof.Rows PySem.SeqAt
set_option maxRecDepth 100000
set_option maxHeartbeats 4000000
namespace Mine
section
variable {prog : Program} {w : World} {M : Model} {A : Around} {E : Value → Shared → Prop} {R : Result → Shared → Prop} {s : Shared} {h : Heap} {t : Nat} {env : Env}
theorem sub_tail {value slice : Expr} {o i : Value} {T id : String} {ops : List Value} {Q : Value → Shared → Prop} (hT : s.TypeIs o T)
    (hl : typeLookup (.type T) "__getitem__" = pure (some (.builtin id))) (q : wpAny (model prog w) A (getItem o i) Q E s)
    (hs : subscripted slice false o i = operate ops (getItem o i)) :
    wpAny (model prog w) A (subscriptTail value slice o i) Q E s := by
  unfold subscriptTail
  refine wpAny_bind ?_
  rw [getitemInPython_of_ne hT.not_modules]
  refine wpAny_bind (wpAny_specialOf hT hl ?_)
  have fin : wpAny (model prog w) A (subscripted slice false o i) (fun r s₃ => wpAny (model prog w) A (letTemporaryGo value o r >>= fun _ => pure r) Q E s₃) E s := by
    rw [hs]
    exact wpAny_operating (wpAny_mono q (fun r s₃ h₃ => wpAny_bind (wpAny_letTemporaryGo (wpAny_pure h₃))) fun _ _ x => x)
  first
    | exact wpAny_pure (wpAny_bind fin)
    | exact wpAny_bind (wpAny_pure (wpAny_bind fin))
    | exact wpAny_bind fin
/-- x[k] -/
theorem do_item {value slice : Expr} {l : Addr} {vs : List Value} {k : Nat} {u : Tok} {v : Value} {Q : Value → Shared → Prop} (hl : h.IsList l vs.toArray) (hx : vs[k]? = some v) (hsz : vs.length ≤ 100000) (q : Q v (st s h t))
    (hs : subscripted slice false (.ref l) (.int (k : Int) u) = operate [.ref l, .int (k : Int) u] (getItem (.ref l) (.int (k : Int) u)) := by with_unfolding_all rfl) :
    wpAny (model prog w) A (subscriptTail value slice (.ref l) (.int (k : Int) u)) Q E (st s h t) := by
  have hk : k < vs.length := (List.getElem?_eq_some_iff.mp hx).1
  exact sub_tail (s := st s h t) hl.typeIs slot_list_getitem.lookup (wpAny_getItem_list (s := st s h t) hl (by omega) (by omega) (by simpa using hx) q) hs
/-- x[k:] -/
theorem ev_from {value e : Expr} {sp pos : Pos} {Q : Value → Shared → Prop}
    (q : wpAny (model prog w) A (eval value env) (fun v s₁ => wpAny (model prog w) A (eval e env) (fun i s₂ => ∃ (l : Addr) (vs : List Value) (k : Nat) (u : Tok) (h₂ : Heap) (t₂ : Nat), v = .ref l ∧ i = .int (k : Int) u ∧ s₂ = st s h₂ t₂ ∧ h₂.IsList l vs.toArray ∧ vs.length ≤ 100000 ∧
      ∀ r h', Kp h₂ h' → h₂.get? r = none → h'.PlainList r (vs.drop k).toArray → Q (.ref r) (st s h' t₂)) E s₁) E (st s h t)) :
    wpAny (model prog w) A (eval (.Subscript value (.Slice (some e) none none sp) pos) env) Q E (st s h t) := by
  refine Subscript_ (wpAny_mono q (fun v s₁ q => wpAny_Slice (wpAny_evalPart_some (wpAny_mono q (fun i s₂ q => wpAny_evalPart_none (wpAny_evalPart_none ?_)) fun _ _ e => e))) fun _ _ e => e)
  obtain ⟨l, vs, k, u, h₂, t₂, rfl, rfl, rfl, hl, hsz, q⟩ := q
  have hz : sizeLine = 16777216 := rfl
  refine sub_tail (Heap.IsList.typeIs (hl.push _)) slot_list_getitem.lookup (wpAny_getItem_list_slice (hl.push _) (Heap.IsSliceOf.new ..) (.int _ _) .none .none (by simp) ?_ (by rw [List.size_toArray]; omega)) (by rfl)
  refine q _ _ ((Kp.push _ _).trans (Kp.push _ _)) (none_of_kp (Kp.push _ _) none_of_size) ⟨0, ?_⟩
  rw [slicePick_from']
  exact Heap.get?_push_size _ rfl
/-- x[:k] -/
theorem ev_upto {value e : Expr} {sp pos : Pos} {Q : Value → Shared → Prop}
    (q : wpAny (model prog w) A (eval value env) (fun v s₁ => wpAny (model prog w) A (eval e env) (fun i s₂ => ∃ (l : Addr) (vs : List Value) (k : Nat) (u : Tok) (h₂ : Heap) (t₂ : Nat), v = .ref l ∧ i = .int (k : Int) u ∧ s₂ = st s h₂ t₂ ∧ h₂.IsList l vs.toArray ∧ vs.length ≤ 100000 ∧
      ∀ r h', Kp h₂ h' → h₂.get? r = none → h'.PlainList r (vs.take k).toArray → Q (.ref r) (st s h' t₂)) E s₁) E (st s h t)) :
    wpAny (model prog w) A (eval (.Subscript value (.Slice none (some e) none sp) pos) env) Q E (st s h t) := by
  refine Subscript_ (wpAny_mono q (fun v s₁ q => wpAny_Slice (wpAny_evalPart_none (wpAny_evalPart_some (wpAny_mono q (fun i s₂ q => wpAny_evalPart_none ?_) fun _ _ e => e)))) fun _ _ e => e)
  obtain ⟨l, vs, k, u, h₂, t₂, rfl, rfl, rfl, hl, hsz, q⟩ := q
  have hz : sizeLine = 16777216 := rfl
  refine sub_tail (Heap.IsList.typeIs (hl.push _)) slot_list_getitem.lookup (wpAny_getItem_list_slice (hl.push _) (Heap.IsSliceOf.new ..) .none (.int _ _) .none (by simp) ?_ (by rw [List.size_toArray]; omega)) (by rfl)
  refine q _ _ ((Kp.push _ _).trans (Kp.push _ _)) (none_of_kp (Kp.push _ _) none_of_size) ⟨0, ?_⟩
  rw [slicePick_upto']
  exact Heap.get?_push_size _ rfl
/-- x + y of lists -/
theorem do_add {a b : Addr} {vs us : List Value} {Q : Value → Shared → Prop} (hl : h.PlainList a vs.toArray) (hl' : h.PlainList b us.toArray) (hsz : vs.length + us.length ≤ 100000)
    (q : ∀ r h', Kp h h' → h.get? r = none → h'.PlainList r (vs ++ us).toArray → Q (.ref r) (st s h' t)) : wpAny (model prog w) A (binaryOp .Add (.ref a) (.ref b)) Q E (st s h t) := by
  obtain ⟨n, e⟩ := hl
  obtain ⟨n', e'⟩ := hl'
  have hz : sizeLine = 16777216 := rfl
  refine PySem.P.add_list (s := st s h t) e e' (q _ _ (Kp.push _ _) none_of_size ⟨0, ?_⟩) (by rw [List.size_toArray, List.size_toArray]; omega)
  rw [← List.append_toArray]
  exact Heap.get?_push_size _ rfl
theorem do_addRow {x y : Value} {ns ms : List Int} {Q : Value → Shared → Prop} (p : RowAt h x ns) (p' : RowAt h y ms) (hsz : ns.length + ms.length ≤ 100000)
    (q : ∀ v h', Kp h h' → RowAt h' v (ns ++ ms) → Q v (st s h' t)) : wpAny (model prog w) A (binaryOp .Add x y) Q E (st s h t) := by
  obtain ⟨a, vs, rfl, hl, hi⟩ := p
  obtain ⟨b, us, rfl, hl', hi'⟩ := p'
  exact do_add hl hl' (by rw [hi.length, hi'.length]; exact hsz) fun r h' k _ l => q _ h' k ⟨r, _, rfl, l, hi.append hi'⟩
theorem do_len {a : Addr} {vs : List Value} {Q : Value → Shared → Prop} (hl : h.IsList a vs.toArray) (hsz : vs.length ≤ 10000000) (q : ∀ u tk, Q (.int (vs.length : Int) u) (st s h tk)) : wpAny (model prog w) A (call (.builtin "len") [.ref a]) Q E (st s h t) :=
  Calls.call_len_list (s := st s h t) hl (by rw [List.size_toArray]; omega) (by rw [List.size_toArray]; exact q _ _)
/-- iter(x) -/
theorem do_iter {a : Addr} {vs : Array Value} {Q : Value → Shared → Prop} (hl : h.IsList a vs) (q : ∀ I h', Kp h h' → h.get? I = none → h'.IsListIter I a 0 → Q (.ref I) (st s h' t)) : wpAny (model prog w) A (call (.builtin "iter") [.ref a]) Q E (st s h t) := by
  refine Calls.call_function_entry (by decide +kernel) (by decide +kernel) kdk_entry_iter (kdk_args_iter _) ?_
  unfold Builtin.«iter»
  refine wpAny_bind (m := someArgs "iter" 1 2 _) (wpAny_of_eq (a := [Value.ref a]) (by first | rfl | kernel_rfl!) ?_)
  show wpAny _ _ (pyIter (.ref a) >>= _) _ _ (st s h t)
  exact wpAny_bind (it_list hl fun I h' k n i => wpAny_pure ⟨_, rfl, q I h' k n i⟩)
/-- next(it) -/
theorem do_next {it l : Addr} {i : Nat} {vs : List Value} {x : Value} {Q : Value → Shared → Prop} (hit : h.IsListIter it l i) (hl : h.IsList l vs.toArray) (hx : vs[i]? = some x)
    (q : ∀ h', h'.IsListIter it l (i + 1) → Heap.SameBut it h h' → Q x (st s h' t)) : wpAny (model prog w) A (call (.builtin "next") [.ref it]) Q E (st s h t) := by
  obtain ⟨o, ho, hc, hd⟩ := id hit
  obtain ⟨ol, hol, _, nl, hdl⟩ := hl
  have hT : (st s h t).TypeIs (.ref it) "list_iterator" := ⟨o, ho, hc⟩
  refine Calls.call_function_entry (by decide +kernel) (by decide +kernel) kdk_entry_next (kdk_args_next _) ?_
  unfold Builtin.«next»
  refine wpAny_bind (m := someArgs "next" 1 2 _) (wpAny_of_eq (a := [Value.ref it]) (by first | rfl | kernel_rfl!) ?_)
  dsimp only
  refine wpAny_bind (wpAny_specialOf (name := Str.ofString "__next__") hT slot_listiter_next.lookup ?_)
  refine wpAny_ite_split (fun hab => absurd hab (by decide)) (fun _ => ?_)
  refine wpAny_bind (wpAny_callSpecial?_slot (name := Str.ofString "__next__") hT slot_listiter_next (wpAny_call_entry slot_listiter_next hT entry_listiter_next ?_ (args_listiter_next _)))
  show wpAny _ _ (field (.ref it) 0 >>= _) _ _ (st s h t)
  refine wpAny_bind (wpAny_field (s := st s h t) ho hd (x := .ref l) rfl ?_)
  show wpAny _ _ (if (Value.ref l == Value.none) = true then _ else _) _ _ (st s h t)
  rw [if_neg (show ¬ ((Value.ref l == Value.none) = true) from Bool.false_ne_true)]
  show wpAny _ _ (field (.ref it) 1 >>= _) _ _ (st s h t)
  refine wpAny_bind (wpAny_field (s := st s h t) ho hd (x := .int i 0) rfl ?_)
  show wpAny _ _ (seqItems? (.ref l) >>= _) _ _ (st s h t)
  refine wpAny_bind (wpAny_seqItems (s := st s h t) hol hdl ?_)
  have hx' : (vs.toArray)[i]? = some x := by simpa using hx
  simp only [Int.toNat_natCast, hx']
  refine wpAny_bind (wpAny_setField (s := st s h t) ho hd (by simp) (wpAny_pure ⟨x, rfl, wpAny_pure ⟨x, rfl, q _ ?_ (Heap.SameBut.update ..)⟩⟩))
  exact ⟨_, Heap.get?_update_self _ ho (Obj.isFreed_of_fields (Obj.data_mapFields hd _)), (Obj.cls_mapFields ..).trans hc, by
    rw [Obj.data_mapFields hd]; simp [rawInt]⟩
end
section
variable {prog : Program} {w : World} {M : Model} {A : Around} {E : Value → Shared → Prop} {R : Result → Shared → Prop} {s : Shared} {h : Heap} {t : Nat} {env : Env}
/-- _law_lesser -/
theorem lesser_spec {x y : Value} {ns ms : List Int} {Q : Value → Shared → Prop} (hA : AOk 2 A) (G : Gnd h) (p : RowAt h x ns) (p' : RowAt h y ms)
    (q : ∀ h' tk, Kp h h' → Q (if lexLt ms ns then y else x) (st s h' tk)) : wpAny (model prog w) A (call (.ref 61) [x, y]) Q E (st s h t) := by
  refine call_def (hA.less (by omega)) G.lim G.f61 (binds := [(Str.ofString "left", x), (Str.ofString "right", y)]) (fun doc pm cd => BindsTo.of_eq (by rfl)) (fun doc pm cd L h₀ tk k₀ hL n₀ => ?_)
  have hA1 := hA.deeper (callEnv (fdOf (Str.ofString "_law_lesser") (dpAt 10) .none doc pm cd) L 61)
  generalize hB : A.deeper (callEnv (fdOf (Str.ofString "_law_lesser") (dpAt 10) .none doc pm cd) L 61) = B at hA1 ⊢
  refine wpAny_execs_cons (wpAny_Return_some (wpAny_IfExp (wpAny_isTrue_Compare1 (ev_local n₀ rfl (ev_local n₀ rfl (do_lt (s := st s h₀ tk) (by have := hA1.hu; omega) (p'.mono k₀) (p.mono k₀) (wpAny_truthy_bool ?_)))))))
  have q' := q h₀ tk k₀
  cases hc : lexLt ms ns with
  | true => rw [hc] at q'; exact ev_local n₀ rfl q'
  | false => rw [hc] at q'; exact ev_local n₀ rfl q'
/-- reduce(_law_lesser, xs) -/
theorem reduce_spec {a : Addr} {ps : List (Value × List Int)} (d : Value × List Int) {Q : Value → Shared → Prop} (hA : AOk 4 A) (G : Gnd h) (hl : h.IsList a (ps.map (·.1)).toArray) (hp : ∀ p ∈ ps, RowAt h p.1 p.2) (hne : ps ≠ [])
    (q : ∀ h' tk, Kp h h' → Q (best d ps).1 (st s h' tk)) : wpAny (model prog w) A (call (.ref 44) [.ref 61, .ref a]) Q E (st s h t) := by
  have hpos : 0 < ps.length := List.length_pos_iff.mpr hne
  refine call_def (hA.less (by omega)) G.lim G.f44 (binds := [(Str.ofString "function", .ref 61), (Str.ofString "sequence", .ref a), (Str.ofString "initial", .ref 36)]) (fun doc pm cd => ?_) (fun doc pm cd L h₀ tk k₀ hL n₀ => ?_)
  · obtain ⟨o, n, ho, hd⟩ := G.t37
    exact BindsTo.of_defaults (s := st s h t) rfl ho hd rfl rfl
  have hA1 := hA.deeper (callEnv (fdOf (Str.ofString "reduce") (dpAt 6) (.ref 37) doc pm cd) L 44)
  generalize hB : A.deeper (callEnv (fdOf (Str.ofString "reduce") (dpAt 6) (.ref 37) doc pm cd) L 44) = B at hA1 ⊢
  refine wpAny_execs_cons (wpAny_Assign_Name (ev_bi1 (G.mono k₀) boot_iter (ev_local n₀ rfl (do_iter (isList_kp k₀ hl) fun I h₁ k₁ hI i₁ => ?_))))
  refine st_local (n₀.keeps k₁) (fun h₂ n₂ b₂ => ?_)
  have hIL : I ≠ L := (ns_ne n₀ hI).symm
  have i₂ := i₁.extBut b₂.extBut hIL
  have kS2 : Kp h h₂ := KpB.kp (k₀.trans k₁) (KpB.same b₂) (by simpa using hL)
  have hI0 : h.get? I = none := none_of_kp k₀ hI
  have haI : a ≠ I := iter_ne hl hI0
  have haL : a ≠ L := iter_ne hl hL
  have hx0 : (ps.map (·.1))[0]? = some (ps[0]).1 := by simp [hpos]
  refine wpAny_execs_cons (wpAny_If (wpAny_isTrue_Compare1 (ev_local n₂ rfl (ev_global (G.mono kS2) (wpAny_is_ref_self (wpAny_truthy_bool ?_))))))
  refine wpAny_execs_cons (wpAny_Try_except (wpAny_execs_cons (wpAny_Assign_Name (ev_bi1 (G.mono kS2) boot_next (ev_local n₂ rfl (do_next i₂ (isList_kp kS2 hl) hx0 fun h₃ i₃ b₃ => ?_))))))
  refine st_local (n₂.sameBut b₃ hIL.symm) (fun h₄ n₄ b₄ => wpAny_execs_nil (wpAny_execs_nil (wpAny_execs_nil ?_)))
  have i₄ := i₃.extBut b₄.extBut hIL
  have new : ∀ b ∈ [L] ++ [I], h.get? b = none := by
    simp only [List.singleton_append, List.mem_cons, List.not_mem_nil, or_false, forall_eq_or_imp, forall_eq]; exact ⟨hL, hI0⟩
  have kS4 : Kp h h₄ := KpB.kp kS2 (((KpB.same b₃).more (by simp)).trans ((KpB.same b₄).more (by simp))) new
  have e1 : best d (ps.take 1) = ps[0] := by
    cases ps with
    | nil => exact absurd rfl hne
    | cons p r => rfl
  refine wpAny_execs_cons (wpAny_For (ev_local n₄ rfl (wpAny_pyIter_listiter (s := st s h₄ _) i₄ ?_)))
  have hn : (ps.map (·.1)).toArray.size = ps.length := by simp
  refine for_walk (Walks.list hA1.hh I a haI (ps.map (·.1)).toArray) [L] (by simp [hIL.symm, haL.symm]) 
    (fun i h => ∃ m, h.Ns L m ∧ m (Str.ofString "function") = some (.ref 61) ∧ m (Str.ofString "value") = some (best d (ps.take i)).1) ?_ (k := 1) ⟨i₄, isList_kp kS4 hl⟩ ?_ (by rw [hn]; exact hpos) ?_ ?_
  · rintro i h h' ⟨m, n, r⟩ k
    exact ⟨m, n.at' fun o x => k L (by simp) o x, r⟩
  · exact ⟨_, n₄, rfl, by rw [e1]; exact if_pos rfl⟩
  · rintro i v h₅ tk₅ h1i hi hv kb ⟨m, n₅, hf, hm⟩
    rw [hn] at hi
    have hv' : (ps[i]).1 = v := by
      have : (ps.map (·.1)).toArray[i]? = some v := hv
      simpa [hi] using this
    subst hv'
    have hne' : ps.take i ≠ [] := by intro e; have := congrArg List.length e; rw [List.length_take, List.length_nil] at this; omega
    have kS5 : Kp h h₅ := KpB.kp kS4 kb new
    refine wpAny_assign_Name (st_local n₅ fun h₆ n₆ b₆ => ?_)
    have kS6 : Kp h h₆ := KpB.kp kS5 (KpB.same b₆) (by simpa using hL)
    have hb := mem_best d _ hne'
    refine wpAny_execs_cons (wpAny_Assign_Name (Call_ (ev_local n₆ ((if_neg (by decide)).trans hf) (ev_def (G.mono kS6).f61 ?_))))
    refine args_cons (ev_local n₆ ((if_neg (by decide)).trans hm) (args_cons (ev_local n₆ (if_pos rfl) (args_nil ⟨Kp.refl _, ?_⟩))))
    refine lesser_spec (hA1.less (by omega)) (G.mono kS6) ((hp _ (List.mem_of_mem_take hb)).mono kS6) ((hp _ (List.getElem_mem hi)).mono kS6) fun h₇ tk₇ k₇ => ?_
    refine st_local (n₆.keeps k₇) (fun h₈ n₈ b₈ => wpAny_execs_nil ⟨h₈, _, rfl, ?_, _, n₈, ?_, ?_⟩)
    · exact ((KpB.same b₆).trans (KpB.of k₇)).trans (KpB.same b₈)
    · exact (if_neg (by decide)).trans ((if_neg (by decide)).trans hf)
    · have htake : ps.take (i + 1) = ps.take i ++ [ps[i]] := by rw [List.take_add_one]; simp [hi]
      rw [htake, best_snoc _ _ _ hne']
      refine (if_pos rfl).trans (congrArg some ?_)
      unfold pick
      split <;> rfl
  · rintro h₅ tk₅ kb ⟨m, n₅, hf, hm⟩
    rw [hn, List.take_length] at hm
    refine wpAny_execs_cons (wpAny_Return_some (ev_local n₅ hm (q h₅ _ (KpB.kp kS4 kb new))))
end
end Mine
end
section
open PySem PySem.W PyProof.Rows PySem.SeqAt
set_option maxRecDepth 100000
set_option maxHeartbeats 4000000
namespace Mine
def cAddrs (C : Addr) (scope : Scope) : List Addr := (cellsFrom (C + 1) scope.names []).map (·.2)
/-- a comprehension's own: its names, its cells -/
def CS (C : Addr) (scope : Scope) (h : Heap) : Prop := (∃ m, h.Ns C m) ∧ ∀ c ∈ cAddrs C scope, ∃ v, h.IsCell c v
theorem CS.mono {C : Addr} {scope : Scope} {h h' : Heap} (x : CS C scope h) (k : ∀ b ∈ C :: cAddrs C scope, ∀ o, h.get? b = some o → h'.get? b = some o) : CS C scope h' :=
  ⟨let ⟨m, n⟩ := x.1; ⟨m, n.at' fun o e => k C (.head _) o e⟩, fun c hc => let ⟨v, o, e, d⟩ := x.2 c hc; ⟨v, o, k c (.tail _ hc) o e, d⟩⟩
theorem CS.some {C : Addr} {scope : Scope} {h : Heap} (x : CS C scope h) : ∀ b ∈ C :: cAddrs C scope, ∃ o, h.get? b = some o := by
  intro b hb
  rcases List.mem_cons.mp hb with rfl | hb
  · obtain ⟨_, o, _, _, e, _⟩ := x.1; exact ⟨o, e⟩
  · obtain ⟨_, o, e, _⟩ := x.2 b hb; exact ⟨o, e⟩
section
variable {prog : Program} {w : World} {M : Model} {A : Around} {E : Value → Shared → Prop} {R : Result → Shared → Prop} {s : Shared} {h : Heap} {t : Nat} {env : Env}
theorem new_env {scope : Scope} {cl : List (Str × Addr)} {Q : Env → Shared → Prop}
    (q : ∀ C h', C = h.objs.size → Kp h h' → h.get? C = none → (∀ c ∈ cAddrs C scope, h.get? c = none ∧ c ≠ C) → CS C scope h' →
      Q { scope, locals := C, globals := env.globals, cells := cellsFrom (C + 1) scope.names cl, qual := env.qual, func := none, code := env.code, frame := env.frame, builtins := env.builtins } (st s h' t)) :
    wpAny M A (newFunctionEnv scope env.globals cl [] env.qual none .none (some env)) Q E (st s h t) := by
  simp only [newFunctionEnv, Option.isSome_some, if_true]
  refine wpAny_bind (wpAny_alloc ?_)
  refine wpAny_bind (wpAny_layCells _ (fun name kind cells => by cases hkc : kind == NameKind.cell <;> simp) _ _ _ _ ?_)
  refine wpAny_bind (wpAny_pure (wpAny_pure ?_))
  have hsz : (h.push { cls := .type "dict", data := .dict #[] }).objs.size = h.objs.size + 1 := Heap.size_push ..
  have ok := cellsFrom_ok scope.names (h.push { cls := .type "dict", data := .dict #[] }) (h.objs.size + 1) [] ⟨fun _ _ hm => (nomatch hm), List.Pairwise.nil⟩ (by rw [hsz]; exact Nat.le_refl _)
  rw [hsz] at ok
  have old : Kp h (pushCells (h.push { cls := .type "dict", data := .dict #[] }) scope.names) := fun b o e => pushCells_keeps _ _ b o (Heap.get?_push_of_some _ e)
  have z := q h.objs.size (pushCells (h.push { cls := .type "dict", data := .dict #[] }) scope.names) rfl old none_of_size (fun c hc => ?_) ⟨⟨_, (Heap.Ns.new h (.type "dict")).keeps (pushCells_keeps _ _)⟩, fun c hc => ?_⟩
  · rw [← hsz] at z; exact z
  · obtain ⟨⟨n, c'⟩, hm, rfl⟩ := List.mem_map.mp hc
    have := (ok.empty n c' hm).2
    exact ⟨Heap.get?_none_of_le (Nat.le_of_succ_le this), Nat.ne_of_gt this⟩
  · obtain ⟨⟨n, c'⟩, hm, rfl⟩ := List.mem_map.mp hc
    exact ⟨none, (ok.empty n c' hm).1⟩
/-- what a comprehension's turn must show -/
def Turn (prog : Program) (w : World) (A : Around) (s : Shared) (env : Env) (scope : Scope) (cl : List (Str × Addr)) (x : Str) (px : Pos) (ifs : List Expr) (elt : Expr) (wr : List Addr) (n : Nat) (P : Nat → Value → Prop) (p : Nat → Bool)
    (G : (Addr → Prop) → Nat → Value → Heap → Prop) (h₂ : Heap) : Prop :=
  ∀ (good : Addr → Prop) (C : Addr) (i : Nat) (v : Value) (h₃ : Heap) (t₃ : Nat) (E' : Value → Shared → Prop), (∀ b o, b ∉ wr → h₂.get? b = some o → good b) → (∀ b, h₃.get? b = none → good b) → h₂.get? C = none → (∀ c ∈ cAddrs C scope, h₂.get? c = none ∧ c ≠ C) →
    i < n → P i v → KpB wr h₂ h₃ → CS C scope h₃ →
    wpAny (model prog w) A (assign (.Name x px) (compEnvC scope (cellsFrom (C + 1) scope.names cl) C env) v) (fun _ s₄ => ∃ h₄ t₄, s₄ = st s h₄ t₄ ∧ KpB (C :: cAddrs C scope) h₃ h₄ ∧ CS C scope h₄ ∧
      wpAny (model prog w) A (forIn ifs true fun c r => if r = true then do let ok ← isTrue c (compEnvC scope (cellsFrom (C + 1) scope.names cl) C env) (eval c (compEnvC scope (cellsFrom (C + 1) scope.names cl) C env)); pure (ForInStep.yield ok) else pure (ForInStep.yield r))
        (fun ok s₅ => ok = p i ∧ ∃ h₅ t₅, s₅ = st s h₅ t₅ ∧ Kp h₄ h₅ ∧ (p i = true →
          wpAny (model prog w) A (eval elt (compEnvC scope (cellsFrom (C + 1) scope.names cl) C env)) (fun y s₆ => ∃ h₆ t₆, s₆ = st s h₆ t₆ ∧ Kp h₅ h₆ ∧ G good i y h₆) E' s₅)) E' s₄) E' (st s h₃ t₃)
/-- what stands behind it -/
def Made (good : Addr → Prop) (G : (Addr → Prop) → Nat → Value → Heap → Prop) (n : Nat) (p : Nat → Bool) (D : Addr) (h : Heap) : Prop :=
  ∃ ys : List Value, h.PlainList D ys.toArray ∧ Paired (fun i y => G good i y h) ((List.range n).filter p) ys
theorem paired_mono {α β : Type} {F F' : α → β → Prop} (hm : ∀ a b, F a b → F' a b) : ∀ {l : List α} {r : List β}, Paired F l r → Paired F' l r
  | _, _, .nil => .nil
  | _, _, .cons a b => .cons (hm _ _ a) (paired_mono hm b)
theorem comp_loop {elt iter : Expr} {x : Str} {px : Pos} {ifs : List Expr} {scope : Scope} {cl : List (Str × Addr)} {pos : Pos} {I D C : Addr} {fp wr : List Addr} {n : Nat} {P : Nat → Value → Prop} {St : Nat → Heap → Prop} {h₂ : Heap}
    (W : Walks prog w A I fp wr n P St) (hsz : n ≤ 1000) (p : Nat → Bool) (G : (Addr → Prop) → Nat → Value → Heap → Prop)
    (hG : ∀ good i y h h', (∀ b o, good b → h.get? b = some o → h'.get? b = some o) → G good i y h → G good i y h') (hGT : ∀ (good good' : Addr → Prop) i y h, (∀ b, good b → good' b) → G good i y h → G good' i y h)
    (hW : ∀ i h, St i h → ∀ b ∈ wr, ∃ o, h.get? b = some o)
    (hfp : ∀ b ∈ fp, ∃ o, h₂.get? b = some o) (hT : Turn prog w A s env scope cl x px ifs elt wr n P p G h₂)
    (hD : h₂.get? D = none) (hC : h₂.get? C = none) (hcs : ∀ c ∈ cAddrs C scope, h₂.get? c = none ∧ c ≠ C) (hDC : D ∉ C :: cAddrs C scope)
    (st0 : St 0 h) (hl : h.PlainList D #[]) (cs : CS C scope h) (k₂ : Kp h₂ h)
    (q : ∀ h' t', Made (fun b => b ≠ C) G n p D h' → CS C scope h' → KpB wr h₂ h' → R (.ok .next) (st s h' t')) :
    codeAny (model prog w) A (.compLoop (.ListComp elt [⟨.Name x px, iter, ifs, 0⟩] scope pos) 0 (.ref I) (.ref D) (compEnvC scope (cellsFrom (C + 1) scope.names cl) C env)) R (st s h t) := by
  have offD : ∀ b ∈ fp, b ≠ D := fun b hb => let ⟨o, e⟩ := hfp b hb; ne_of_none e hD
  have offC : ∀ b ∈ fp, b ∉ C :: cAddrs C scope := fun b hb hm => by
    obtain ⟨o, e⟩ := hfp b hb
    rcases List.mem_cons.mp hm with rfl | hm
    · rw [hC] at e; cases e
    · rw [(hcs b hm).1] at e; cases e
  let good : Addr → Prop := fun b => b ≠ D ∧ b ∉ C :: cAddrs C scope ∧ b ∉ wr
  refine codeAny_compLoop_tests (fun k s' => ∃ h' t' i ys, s' = st s h' t' ∧ St i h' ∧ h'.PlainList D (ys : List Value).toArray ∧ CS C scope h' ∧ Paired (fun j y => G good j y h') ((List.range i).filter p) ys ∧ i ≤ n ∧ k = n + 1 - i ∧ KpB wr h₂ h') ?_ (n + 1)
    ⟨h, t, 0, [], rfl, st0, hl, cs, .nil, Nat.zero_le _, rfl, KpB.of k₂⟩
  rintro k s' ⟨h₁, t₁, i, ys, rfl, sti, l₁, cs₁, hp, hi, rfl, kb⟩
  have pl : ∀ {h h' : Heap}, (∀ b o, b ≠ D → h.get? b = some o → h'.get? b = some o) → CS C scope h → CS C scope h' := fun k x => x.mono fun b hb o e => k b o (fun z => hDC (z ▸ hb)) e
  by_cases hlt : i < n
  · refine W.item i (st s h₁ t₁) _ _ hlt sti fun v h₃ t₃ hP st₃ hk₃ => ?_
    have dW : D ∉ wr := fun hm => offD D (W.sub D hm) rfl
    have cW : ∀ b ∈ C :: cAddrs C scope, b ∉ wr := fun b hb hm => offC b (W.sub b hm) hb
    have l₃ : h₃.PlainList D ys.toArray := l₁.at fun o e => hk₃ D o dW e
    have cs₃ : CS C scope h₃ := cs₁.mono fun b hb o e => hk₃ b o (cW b hb) e
    have kb₃ : KpB wr h₂ h₃ := fun b o hb e => hk₃ b o hb (kb b o hb e)
    have hp₃ : Paired (fun j y => G good j y h₃) ((List.range i).filter p) ys := paired_mono (fun j y => hG good j y h₁ h₃ fun b o g e => hk₃ b o g.2.2 e) hp
    refine wpAny_mono (hT good C i v h₃ t₃ _ (fun b o hb e => ⟨ne_of_none e hD, fun hm => ?_, hb⟩) (fun b e => ⟨fun z => ?_, fun hm => ?_, fun hm => ?_⟩) hC hcs hlt hP kb₃ cs₃) (fun _ s₄ q4 => ?_) fun _ _ e => e
    · rcases List.mem_cons.mp hm with rfl | hm
      · rw [hC] at e; cases e
      · rw [(hcs b hm).1] at e; cases e
    · obtain ⟨_, z'⟩ := l₃; rw [← z, e] at z'; cases z'
    · obtain ⟨o, z'⟩ := cs₃.some b hm; rw [e] at z'; cases z'
    · obtain ⟨o, z'⟩ := hW _ _ st₃ b hm
      rw [e] at z'; cases z'
    · obtain ⟨h₄, t₄, rfl, k₄, cs₄, q4⟩ := q4
      have l₄ : h₄.PlainList D ys.toArray := l₃.at fun o e => k₄ D o hDC e
      have hp₄ : Paired (fun j y => G good j y h₄) ((List.range i).filter p) ys := paired_mono (fun j y => hG good j y h₃ h₄ fun b o g e => k₄ b o g.2.1 e) hp₃
      have st₄ : St (i + 1) h₄ := W.frame _ _ _ st₃ fun b hb o e => k₄ b o (offC b hb) e
      have kb₄ : KpB wr h₂ h₄ := fun b o hb e => k₄ b o (fun hm => by
        rcases List.mem_cons.mp hm with rfl | hm
        · rw [hC] at e; cases e
        · rw [(hcs b hm).1] at e; cases e) (kb₃ b o hb e)
      refine wpAny_mono q4 (fun ok s₅ q5 => ?_) fun _ _ e => e
      obtain ⟨rfl, h₅, t₅, rfl, k₅, q5⟩ := q5
      have l₅ := plain_kp k₅ l₄
      have st₅ : St (i + 1) h₅ := W.frame _ _ _ st₄ fun b _ o e => k₅ b o e
      have hp₅ : Paired (fun j y => G good j y h₅) ((List.range i).filter p) ys := paired_mono (fun j y => hG good j y h₄ h₅ fun b o _ e => k₅ b o e) hp₄
      have hr : (List.range (i + 1)).filter p = (List.range i).filter p ++ (if p i then [i] else []) := by
        rw [List.range_succ, List.filter_append]
        cases hpi : p i <;> simp [hpi]
      cases hpi : p i with
      | false =>
        rw [if_neg (by decide)]
        refine ⟨n + 1 - (i + 1), by omega, h₅, t₅, i + 1, ys, rfl, st₅, l₅, cs₄.mono fun b _ o e => k₅ b o e, ?_, hlt, rfl, kb₄.trans (KpB.of k₅)⟩
        rw [hr, hpi]; simpa using hp₅
      | true =>
        rw [if_pos rfl]
        refine wpAny_mono (q5 hpi) (fun y s₆ q6 => ?_) fun _ _ e => e
        obtain ⟨h₆, t₆, rfl, k₆, g6⟩ := q6
        have len : ys.length ≤ 1000 := by
          have := hp₅.length
          have h2 := List.length_filter_le p (List.range i)
          rw [List.length_range] at h2
          omega
        refine do_append (plain_kp k₆ l₅) (fun h₇ l₇ b₇ => ?_) (by omega)
        have up : ∀ b o, b ≠ D → h₆.get? b = some o → h₇.get? b = some o := fun b o hb e => b₇.extBut b o hb e
        refine ⟨n + 1 - (i + 1), by omega, h₇, t₆, i + 1, ys ++ [y], rfl, W.frame _ _ _ st₅ fun b hb o e => up b o (offD b hb) (k₆ b o e), l₇, pl up (cs₄.mono fun b _ o e => k₆ b o (k₅ b o e)), ?_, hlt, rfl, ?_⟩
        · rw [hr, hpi]
          refine Paired.snoc (paired_mono (fun j y => hG good j y h₅ h₇ fun b o g e => up b o g.1 (k₆ b o e)) hp₅) (hG good i y h₆ h₇ (fun b o g e => up b o g.1 e) g6)
        · exact fun b o hb e => up b o (ne_of_none e hD) (k₆ b o (k₅ b o (kb₄ b o hb e)))
  · have hin : i = n := by omega
    subst hin
    refine W.done (st s h₁ t₁) _ _ sti fun h₃ t₃ hk₃ => ?_
    have dW : D ∉ wr := fun hm => offD D (W.sub D hm) rfl
    have cW : ∀ b ∈ C :: cAddrs C scope, b ∉ wr := fun b hb hm => offC b (W.sub b hm) hb
    refine q h₃ t₃ ⟨ys, l₁.at fun o e => hk₃ D o dW e, paired_mono (fun j y g => hGT good _ j y h₃ (fun b g => (show b ≠ C from fun z => g.2.1 (by rw [z]; exact .head _))) (hG good j y h₁ h₃ (fun b o g e => hk₃ b o g.2.2 e) g)) hp⟩ (cs₁.mono fun b hb o e => hk₃ b o (cW b hb) e) fun b o hb e => hk₃ b o hb (kb b o hb e)
/-- all that a comprehension wants to know of its source -/
structure Src (prog : Program) (w : World) (A : Around) (s : Shared) (env : Env) (scope : Scope) (cl : List (Str × Addr)) (x : Str) (px : Pos) (ifs : List Expr) (elt : Expr) (I : Addr) (wr : List Addr) (n : Nat) (p : Nat → Bool)
    (G : (Addr → Prop) → Nat → Value → Heap → Prop) (h₂ : Heap) : Prop where
  all : ∃ (fp : List Addr) (P : Nat → Value → Prop) (St : Nat → Heap → Prop), Walks prog w A I fp wr n P St ∧ St 0 h₂ ∧ (∀ i h, St i h → ∀ b ∈ wr, ∃ o, h.get? b = some o) ∧ (∀ b ∈ fp, ∃ o, h₂.get? b = some o) ∧ Turn prog w A s env scope cl x px ifs elt wr n P p G h₂
  size : n ≤ 1000
  hG : ∀ good i y h h', (∀ b o, good b → h.get? b = some o → h'.get? b = some o) → G good i y h → G good i y h'
  hGT : ∀ (good good' : Addr → Prop) i y h, (∀ b, good b → good' b) → G good i y h → G good' i y h
theorem Made.sameBut {G : (Addr → Prop) → Nat → Value → Heap → Prop} {n : Nat} {p : Nat → Bool} {C D : Addr} {h h' : Heap} (hG : ∀ good i y h h', (∀ b o, good b → h.get? b = some o → h'.get? b = some o) → G good i y h → G good i y h')
    (x : Made (fun b => b ≠ C) G n p D h) (hs : Heap.SameBut C h h') (hDC : D ≠ C) : Made (fun b => b ≠ C) G n p D h' :=
  let ⟨ys, l, P⟩ := x; ⟨ys, l.extBut hs.extBut hDC, paired_mono (fun _ _ g => hG _ _ _ _ _ (fun b o hb e => hs.extBut b o hb e) g) P⟩
theorem Made.top {G : (Addr → Prop) → Nat → Value → Heap → Prop} {n : Nat} {p : Nat → Bool} {good : Addr → Prop} {D : Addr} {h : Heap} (hGT : ∀ (good good' : Addr → Prop) i y h, (∀ b, good b → good' b) → G good i y h → G good' i y h)
    (x : Made good G n p D h) : Made (fun _ => True) G n p D h :=
  let ⟨ys, l, P⟩ := x; ⟨ys, l, paired_mono (fun _ _ g => hGT _ _ _ _ _ (fun _ _ => trivial) g) P⟩
theorem comp_body {elt iter : Expr} {x : Str} {px : Pos} {ifs : List Expr} {scope : Scope} {cl : List (Str × Addr)} {pos : Pos} {I : Addr} {wr : List Addr} {n : Nat} {p : Nat → Bool} {G : (Addr → Prop) → Nat → Value → Heap → Prop} {RR : Value → Addr → Result → Shared → Prop}
    (X : Src prog w A s env scope cl x px ifs elt I wr n p G h)
    (q : ∀ D C h' t', h.get? D = none → h.get? C = none → D ≠ C → Made (fun b => b ≠ C) G n p D h' → (∃ m, h'.Ns C m) → KpB wr h h' → RR (.ref D) C (.ok .next) (st s h' t')) :
    wpAny (model prog w) A (newList []) (fun acc s₃ => wpAny (model prog w) A (newFunctionEnv scope env.globals cl [] env.qual none .none (some env)) (fun cenv s₄ =>
      codeAny (model prog w) A (.compStart (.ListComp elt [⟨.Name x px, iter, ifs, 0⟩] scope pos) 0 (.ref I) acc { cenv with scope := relabel scope env }) (RR acc cenv.locals) s₄) E s₃) E (st s h t) := by
  obtain ⟨⟨fp, P, St, W, st0, hW, hfp, hT⟩, hsz, hG, hGT⟩ := X
  refine ev_newList (fun D h₁ k₁ hD l₁ => ?_)
  refine new_env (env := env) (fun C h₂ _ k₂ hC hcs cs => ?_)
  have hDC : D ∉ C :: cAddrs C scope := fun hm => by
    obtain ⟨_, e⟩ := l₁
    rcases List.mem_cons.mp hm with z | hm
    · rw [← z, e] at hC; cases hC
    · rw [(hcs D hm).1] at e; cases e
  have loop : codeAny (model prog w) A (.compLoop (.ListComp elt [⟨.Name x px, iter, ifs, 0⟩] scope pos) 0 (.ref I) (.ref D) (compEnvC scope (cellsFrom (C + 1) scope.names cl) C env)) (RR (.ref D) C) (st s h₂ t) :=
    comp_loop W hsz p G hG hGT hW hfp hT hD (none_of_kp k₁ hC) (fun c hc => ⟨none_of_kp k₁ (hcs c hc).1, (hcs c hc).2⟩) hDC (W.frame _ _ _ st0 fun b _ o e => k₂ b o (k₁ b o e)) (plain_kp k₂ l₁) cs (k₁.trans k₂)
      fun h' t' m c k => q D C h' t' hD (none_of_kp k₁ hC) (fun z => hDC (z ▸ .head _)) m c.1 k
  exact codeAny_compStart_list loop (W.self 0 (st s h₂ t) _ _ (W.frame _ _ _ st0 fun b _ o e => k₂ b o (k₁ b o e)) loop)
/-- [elt for x in iter if ..] -/
theorem ev_comp {elt iter : Expr} {x : Str} {px : Pos} {ifs : List Expr} {scope : Scope} {cl : List (Str × Addr)} {pos : Pos} {Q : Value → Shared → Prop}
    (q : wpAny (model prog w) A (eval iter env) (fun xv s₁ => wpAny (model prog w) A (pyIter xv) (fun it s₂ => ∃ I wr n p G h₂ t₂, it = .ref I ∧ s₂ = st s h₂ t₂ ∧ Src prog w A s env scope cl x px ifs elt I wr n p G h₂ ∧
      ∀ D h' t', h₂.get? D = none → Made (fun _ => True) G n p D h' → KpB wr h₂ h' → Q (.ref D) (st s h' t')) E s₁) E (st s h t))
    (hclos : closureFor scope env = pure cl := by rfl) (hkind : scope.kind = .function := by rfl) (hnames : ∀ y ∈ scope.names, y.2 = .local → scope.names.lookup y.1 = some .local := by decide)
    (hs : ∀ x, foldedSetIterable iter env x = pure x := by intro _; rfl) :
    wpAny (model prog w) A (eval (.ListComp elt [⟨.Name x px, iter, ifs, 0⟩] scope pos) env) Q E (st s h t) := by
  rw [eval_ListComp]
  refine wpAny_comprehension_free (use := none) rfl hs hclos hkind hnames (wpAny_mono q (fun xv s₁ h₁ => wpAny_mono h₁ (fun it s₂ h₂ => ?_) fun _ _ e => e) fun _ _ e => e)
  obtain ⟨I, wr, n, p, G, h₂, t₂, rfl, rfl, X, q⟩ := h₂
  refine comp_body (RR := fun acc C => compPost (model prog w) A E none Q acc C) X fun D C h' t' hD hC hDC m n k => ?_
  obtain ⟨m', n'⟩ := n
  refine ⟨m', n', fun h'' hs'' => q D h'' t' hD ((m.sameBut X.hG hs'' hDC).top X.hGT) fun b o hb e => hs''.extBut b o (ne_of_none e hC) (k b o hb e)⟩
/-- y = [elt for x in iter if ..] -/
theorem ev_compAssign {elt iter : Expr} {x y : Str} {px py : Pos} {ifs : List Expr} {scope : Scope} {cl : List (Str × Addr)} {pos spos : Pos} {Q : Flow → Shared → Prop}
    (q : wpAny (model prog w) A (eval iter env) (fun xv s₁ => wpAny (model prog w) A (pyIter xv) (fun it s₂ => ∃ I wr n p G h₂ t₂, it = .ref I ∧ s₂ = st s h₂ t₂ ∧ Src prog w A s env scope cl x px ifs elt I wr n p G h₂ ∧
      ∀ D C h' t', h₂.get? D = none → h₂.get? C = none → D ≠ C → Made (fun b => b ≠ C) G n p D h' → KpB wr h₂ h' → wpAny (model prog w) A (assign (.Name y py) env (.ref D)) (fun _ s'' => ∃ h'' t'', s'' = st s h'' t'' ∧ (∀ m, h'.Ns C m → h''.Ns C m) ∧ ∀ h₃, Heap.SameBut C h'' h₃ → Q .next (st s h₃ t'')) E (st s h' t')) E s₁) E (st s h t))
    (hsw : swapsWith (.ListComp elt [⟨.Name x px, iter, ifs, 0⟩] scope pos) (some (.Name y py)) spos.line env = pure true := by rfl)
    (hclos : closureFor scope env = pure cl := by rfl) (hkind : scope.kind = .function := by rfl) (hnames : ∀ y ∈ scope.names, y.2 = .local → scope.names.lookup y.1 = some .local := by decide)
    (hs : ∀ x, foldedSetIterable iter env x = pure x := by intro _; rfl) :
    wpAny (model prog w) A (exec (.Assign [.Name y py] (.ListComp elt [⟨.Name x px, iter, ifs, 0⟩] scope pos) spos) env) Q E (st s h t) := by
  rw [exec_Assign_Name_used _ _ _ _ hsw]
  refine wpAny_bind (wpAny_standAt (wpAny_bind ?_))
  show wpAny _ A (do let _ ← comprehension (.ListComp elt [⟨.Name x px, iter, ifs, 0⟩] scope pos) scope env _ (newList []) false (eval iter env) (some (assign (.Name y py) env))) _ _ (st s h t)
  refine wpAny_bind (wpAny_mono (wpAny_comprehension_free (use := some (assign (.Name y py) env)) (Q := fun _ s' => Q .next s') rfl hs hclos hkind hnames
    (wpAny_mono q (fun xv s₁ h₁ => wpAny_mono h₁ (fun it s₂ h₂ => ?_) fun _ _ e => e) fun _ _ e => e)) (fun _ s' hq => wpAny_pure (wpAny_pure hq)) fun _ _ e => e)
  obtain ⟨I, wr, n, p, G, h₂, t₂, rfl, rfl, X, q⟩ := h₂
  refine comp_body (RR := fun acc C => compPost (model prog w) A E (some (assign (.Name y py) env)) (fun _ s' => Q .next s') acc C) X fun D C h' t' hD hC hDC m n k => ?_
  show wpAny _ A (assign (.Name y py) env (.ref D)) _ _ _
  refine wpAny_mono (q D C h' t' hD hC hDC m k) (fun _ s'' z => ?_) fun _ _ e => e
  obtain ⟨h'', t'', rfl, n', z⟩ := z
  obtain ⟨m', nn⟩ := n
  exact ⟨m', n' m' nn, fun h₃ hs => z h₃ hs⟩
end
end Mine
end
section
open PySem PySem.W PyProof.Rows PySem.SeqAt
set_option maxRecDepth 100000
set_option maxHeartbeats 4000000
namespace Mine
def jn (ns ms : List Int) : Int := b2i (lexLt (ms ++ ns) (ns ++ ms)) - b2i (lexLt (ns ++ ms) (ms ++ ns))
section
variable {prog : Program} {w : World} {M : Model} {A : Around} {E : Value → Shared → Prop} {R : Result → Shared → Prop} {s : Shared} {h : Heap} {t : Nat} {env : Env}
/-- _law_joined -/
theorem joined_spec {x y : Value} {ns ms : List Int} {Q : Value → Shared → Prop} (hA : AOk 2 A) (G : Gnd h) (p : RowAt h x ns) (p' : RowAt h y ms) (hsz : ns.length + ms.length ≤ 1000)
    (q : ∀ u h' tk, Kp h h' → Q (.int (jn ns ms) u) (st s h' tk)) : wpAny (model prog w) A (call (.ref 68) [x, y]) Q E (st s h t) := by
  refine call_def (hA.less (by omega)) G.lim G.f68 (binds := [(Str.ofString "left", x), (Str.ofString "right", y)]) (fun doc pm cd => BindsTo.of_eq (by rfl)) (fun doc pm cd L h₀ tk k₀ hL n₀ => ?_)
  have hA1 := hA.deeper (callEnv (fdOf (Str.ofString "_law_joined") (dpAt 11) .none doc pm cd) L 68)
  generalize hB : A.deeper (callEnv (fdOf (Str.ofString "_law_joined") (dpAt 11) .none doc pm cd) L 68) = B at hA1 ⊢
  have hu : B.units < cLine := by have := hA1.hu; omega
  have s1 : ns.length + ms.length ≤ 100000 := by omega
  have s2 : ms.length + ns.length ≤ 100000 := by omega
  refine wpAny_execs_cons (wpAny_Return_some (wpAny_BinOp (wpAny_Compare1 (wpAny_BinOp (ev_local n₀ rfl (ev_local n₀ rfl (do_addRow (p.mono k₀) (p'.mono k₀) s1 fun v₁ h₁ k₁ r₁ => ?_)))))))
  have n₁ := n₀.keeps k₁
  refine wpAny_BinOp (ev_local n₁ rfl (ev_local n₁ rfl (do_addRow (p'.mono (k₀.trans k₁)) (p.mono (k₀.trans k₁)) s2 fun v₂ h₂ k₂ r₂ => ?_)))
  refine do_gt (s := st s h₂ tk) hu (r₁.mono k₂) r₂ ?_
  have n₂ := n₁.keeps k₂
  have kS2 := (k₀.trans k₁).trans k₂
  refine wpAny_Compare1 (wpAny_BinOp (ev_local n₂ rfl (ev_local n₂ rfl (do_addRow (p.mono kS2) (p'.mono kS2) s1 fun v₃ h₃ k₃ r₃ => ?_))))
  have n₃ := n₂.keeps k₃
  refine wpAny_BinOp (ev_local n₃ rfl (ev_local n₃ rfl (do_addRow (p'.mono (kS2.trans k₃)) (p.mono (kS2.trans k₃)) s2 fun v₄ h₄ k₄ r₄ => ?_)))
  refine do_lt (s := st s h₄ tk) hu (r₃.mono k₄) r₄ ?_
  exact sub_bool (s := st s h₄ tk) (q _ h₄ _ ((kS2.trans k₃).trans k₄))
/-- a call of a def whose names are captured -/
theorem call_defC {f : Addr} {nm : Str} {d : DP} {args : List Value} {binds : List (Str × Value)} {Q : Value → Shared → Prop}
    (hA : AOk 1 A) (hlim : h.NoLimit) (hf : DefAt h f nm d .none)
    (hbind : ∀ doc pm cd, bindArgs (fdOf nm d .none doc pm cd) ⟨args, []⟩ = pure binds)
    (q : ∀ doc pm cd L h₀ tk, Kp h h₀ → h.get? L = none → (∀ n c, (n, c) ∈ cellsFrom (L + 1) d.scope.names [] → h.get? c = none ∧ L ≠ c) →
      h₀.Ns L (bindL (callEnvC (fdOf nm d .none doc pm cd) L f).kindOf binds fun _ => none) → (∀ n c, (cellsFrom (L + 1) d.scope.names []).lookup n = some c → h₀.IsCell c (bindC (callEnvC (fdOf nm d .none doc pm cd) L f).kindOf binds (fun _ => none) n)) →
      wpAny (model prog w) (A.deeper (callEnvC (fdOf nm d .none doc pm cd) L f)) (execs d.body (callEnvC (fdOf nm d .none doc pm cd) L f))
        (fun fl s' => match fl with | .ret v => Q v s' | _ => Q .none s') (fun _ _ => False) (st s h₀ tk))
    (hkind : ∀ L, ∀ x ∈ binds, d.scope.names.lookup x.1 = some .local ∨ (d.scope.names.lookup x.1 = some .cell ∧ ((cellsFrom (L + 1) d.scope.names []).lookup x.1).isSome = true))
    (hco : d.scope.isCoroutine = false := by rfl) (hgen : d.scope.isGenerator = false := by rfl) (hk : d.scope.kind = .function := by rfl) :
    wpAny (model prog w) A (call (.ref f) args) Q E (st s h t) := by
  obtain ⟨o, doc, pm, cd, ho, hd, hc⟩ := hf
  refine wpAny_call (codeAny_call_cells (s := st s h t) (by have := hA.hd; omega) ho hd hlim hc rfl (hbind doc pm cd) rfl (hkind _) (fun s₁ x => ?_) hco hgen hk)
  obtain ⟨h₁, tk, rfl, k⟩ := x.done
  refine wpAny_mono (q doc pm cd h.objs.size h₁ tk k none_of_size (fun n c hm => ?_) x.toInCall.ns fun n c hm => x.cell n c hm) (fun fl s' q => ?_) (fun _ _ x => x.elim)
  · have := x.above n c hm
    exact ⟨Heap.get?_none_of_le (Nat.le_of_lt this), Nat.ne_of_lt this⟩
  · cases fl <;> exact q
theorem ev_cell {x : Str} {pos : Pos} {c : Addr} {v : Value} {Q : Value → Shared → Prop} (hc : env.cells.lookup x = some c) (hv : h.IsCell c (some v)) (q : Q v (st s h t))
    (hk : env.scope.kind = .function := by rfl) (hl : env.kindOf x = some .cell := by rfl) (hd : (x == ("__debug__" : Str)) = false := by decide) :
    wpAny M A (eval (.Name x pos) env) Q E (st s h t) := wpAny_Name (wpAny_loadName_cell (s := st s h t) hk hl hc hv q) hd
end
end Mine
end
section
open PySem PySem.W PyProof.Rows PySem.SeqAt
set_option maxRecDepth 100000
set_option maxHeartbeats 4000000
namespace Mine
section
variable {prog : Program} {w : World} {M : Model} {A : Around} {E : Value → Shared → Prop} {R : Result → Shared → Prop} {s : Shared} {h : Heap} {t : Nat} {env : Env}
/-- iter(range(a, b)) -/
theorem it_range {r : Addr} {a b : Int} {t' u v : Tok} {Q : Value → Shared → Prop} (hr : IsRange h r a b 1 t' u v) (ha : 0 ≤ a) (hab : a ≤ b) (hb : b ≤ 1000)
    (q : ∀ I h', Kp h h' → h.get? I = none → IsRangeIter h' I (a + ((0 : Nat) : Int) * 1) (((b - a).toNat : Int) - ((0 : Nat) : Int)) 1 → Q (.ref I) (st s h' t)) : wpAny (model prog w) A (pyIter (.ref r)) Q E (st s h t) := by
  refine wpAny_pyIter_range (s := st s h t) hr (small_one (by omega) (by omega) (by omega) (by omega)) (q _ _ (Kp.push _ _) none_of_size ?_)
  rw [rangeSize_nat]
  simpa using Heap.get?_push_size _ rfl
theorem do_range1 {n : Int} {u : Tok} {Q : Value → Shared → Prop} (q : ∀ r h' tk t' u v, Kp h h' → h.get? r = none → IsRange h' r 0 n 1 t' u v → Q (.ref r) (st s h' tk)) : wpAny (model prog w) A (call (.type "range") [.int n u]) Q E (st s h t) :=
  call_range_1 (s := st s h t) (q _ _ _ _ _ _ (Kp.push _ _) none_of_size (IsRange.new ..))
theorem do_range2 {a b : Int} {u u' : Tok} {Q : Value → Shared → Prop} (q : ∀ r h' tk t' u v, Kp h h' → h.get? r = none → IsRange h' r a b 1 t' u v → Q (.ref r) (st s h' tk)) : wpAny (model prog w) A (call (.type "range") [.int a u, .int b u']) Q E (st s h t) :=
  call_range_2 (s := st s h t) (q _ _ _ _ _ _ (Kp.push _ _) none_of_size (IsRange.new ..))
/-- the turn of a comprehension whose target is a plain name -/
theorem Turn.local {scope : Scope} {cl : List (Str × Addr)} {x : Str} {px : Pos} {ifs : List Expr} {elt : Expr} {wr : List Addr} {n : Nat} {P : Nat → Value → Prop} {p : Nat → Bool} {G : (Addr → Prop) → Nat → Value → Heap → Prop} {h₂ : Heap}
    (q : ∀ (good : Addr → Prop) (C : Addr) (i : Nat) (v : Value) (h₄ : Heap) (t₄ : Nat) (E' : Value → Shared → Prop) (m : Str → Option Value), (∀ b o, b ∉ wr → h₂.get? b = some o → good b) → (∀ b, h₄.get? b = none → good b) → h₂.get? C = none →
      i < n → P i v → KpB wr h₂ h₄ → h₄.Ns C m → m x = some v →
      wpAny (model prog w) A (forIn ifs true fun c r => if r = true then do let ok ← isTrue c (compEnvC scope (cellsFrom (C + 1) scope.names cl) C env) (eval c (compEnvC scope (cellsFrom (C + 1) scope.names cl) C env)); pure (ForInStep.yield ok) else pure (ForInStep.yield r))
        (fun ok s₅ => ok = p i ∧ ∃ h₅ t₅, s₅ = st s h₅ t₅ ∧ Kp h₄ h₅ ∧ (p i = true →
          wpAny (model prog w) A (eval elt (compEnvC scope (cellsFrom (C + 1) scope.names cl) C env)) (fun y s₆ => ∃ h₆ t₆, s₆ = st s h₆ t₆ ∧ Kp h₅ h₆ ∧ G good i y h₆) E' s₅)) E' (st s h₄ t₄))
    (hl : ∀ C, (compEnvC scope (cellsFrom (C + 1) scope.names cl) C env).kindOf x = some .local := by intro _; rfl)
    (hk : ∀ C, ((compEnvC scope (cellsFrom (C + 1) scope.names cl) C env).scope.kind == .class || ((compEnvC scope (cellsFrom (C + 1) scope.names cl) C env).scope.kind == .module && (compEnvC scope (cellsFrom (C + 1) scope.names cl) C env).locals != (compEnvC scope (cellsFrom (C + 1) scope.names cl) C env).globals)) = false := by intro _; rfl) :
    Turn prog w A s env scope cl x px ifs elt wr n P p G h₂ := by
  intro good C i v h₃ t₃ E' g1 g2 hC hcs hi hP kb cs
  obtain ⟨⟨m, n₃⟩, cc⟩ := id cs
  refine wpAny_assign_Name (st_local n₃ (fun h₄ n₄ b₄ => ?_) rfl (hl C) (hk C))
  have k34 : KpB (C :: cAddrs C scope) h₃ h₄ := (KpB.same b₄).more (by simp)
  have cs₄ : CS C scope h₄ := ⟨⟨_, n₄⟩, fun c hc => let ⟨v, o, e, d⟩ := cc c hc; ⟨v, o, b₄.extBut c o (hcs c hc).2 e, d⟩⟩
  have kb₄ : KpB wr h₂ h₄ := fun b o hb e => k34 b o (fun hm => by
    rcases List.mem_cons.mp hm with rfl | hm
    · rw [hC] at e; cases e
    · rw [(hcs b hm).1] at e; cases e) (kb b o hb e)
  refine ⟨h₄, _, rfl, k34, cs₄, q good C i v h₄ _ E' _ g1 (fun b e => g2 b ?_) hC hi hP kb₄ n₄ (if_pos rfl)⟩
  cases e' : h₃.get? b with
  | none => rfl
  | some o =>
    by_cases hm : b ∈ C :: cAddrs C scope
    · obtain ⟨o', z⟩ := cs₄.some b hm
      rw [e] at z; cases z
    · rw [k34 b o hm e'] at e; cases e
theorem Turn.plain {scope : Scope} {cl : List (Str × Addr)} {x : Str} {px : Pos} {elt : Expr} {wr : List Addr} {n : Nat} {P : Nat → Value → Prop} {G : (Addr → Prop) → Nat → Value → Heap → Prop} {h₂ : Heap}
    (q : ∀ (good : Addr → Prop) (C : Addr) (i : Nat) (v : Value) (h₄ : Heap) (t₄ : Nat) (E' : Value → Shared → Prop) (m : Str → Option Value), (∀ b o, b ∉ wr → h₂.get? b = some o → good b) → (∀ b, h₄.get? b = none → good b) → h₂.get? C = none →
      i < n → P i v → KpB wr h₂ h₄ → h₄.Ns C m → m x = some v →
      wpAny (model prog w) A (eval elt (compEnvC scope (cellsFrom (C + 1) scope.names cl) C env)) (fun y s₆ => ∃ h₆ t₆, s₆ = st s h₆ t₆ ∧ Kp h₄ h₆ ∧ G good i y h₆) E' (st s h₄ t₄))
    (hl : ∀ C, (compEnvC scope (cellsFrom (C + 1) scope.names cl) C env).kindOf x = some .local := by intro _; rfl)
    (hk : ∀ C, ((compEnvC scope (cellsFrom (C + 1) scope.names cl) C env).scope.kind == .class || ((compEnvC scope (cellsFrom (C + 1) scope.names cl) C env).scope.kind == .module && (compEnvC scope (cellsFrom (C + 1) scope.names cl) C env).locals != (compEnvC scope (cellsFrom (C + 1) scope.names cl) C env).globals)) = false := by intro _; rfl) :
    Turn prog w A s env scope cl x px [] elt wr n P (fun _ => true) G h₂ :=
  Turn.local (fun good C i v h₄ t₄ E' m g1 g2 hC hi hP kb n hm => by
    rw [List.forIn_nil]
    exact wpAny_pure ⟨rfl, h₄, t₄, rfl, Kp.refl _, fun _ => q good C i v h₄ t₄ E' m g1 g2 hC hi hP kb n hm⟩) hl hk
/-- the source range(a, b) -/
theorem Src.range {scope : Scope} {cl : List (Str × Addr)} {x : Str} {px : Pos} {ifs : List Expr} {elt : Expr} {I : Addr} {n : Nat} {a : Int} {p : Nat → Bool} {G : (Addr → Prop) → Nat → Value → Heap → Prop}
    (hA : A.handled = none) (hI : IsRangeIter h I (a + ((0 : Nat) : Int) * 1) ((n : Int) - ((0 : Nat) : Int)) 1) (hn : n ≤ 1000)
    (hG : ∀ good i y h h', (∀ b o, good b → h.get? b = some o → h'.get? b = some o) → G good i y h → G good i y h') (hGT : ∀ (good good' : Addr → Prop) i y h, (∀ b, good b → good' b) → G good i y h → G good' i y h)
    (hT : Turn prog w A s env scope cl x px ifs elt [I] n (fun i v => ∃ t, v = .int (a + i * 1) t) p G h) : Src prog w A s env scope cl x px ifs elt I [I] n p G h :=
  ⟨⟨[I], _, _, Walks.range hA I a 1 n, hI, fun i h st b hb => by rw [List.mem_singleton.mp hb]; exact ⟨_, st⟩, fun b hb => by rw [List.mem_singleton.mp hb]; exact ⟨_, hI⟩, hT⟩, hn, hG, hGT⟩
theorem ev_comp' {elt iter : Expr} {x : Str} {px : Pos} {ifs : List Expr} {scope : Scope} {cl : List (Str × Addr)} {pos : Pos} {Q : Value → Shared → Prop}
    (hclos : closureFor scope env = pure cl) 
    (q : wpAny (model prog w) A (eval iter env) (fun xv s₁ => wpAny (model prog w) A (pyIter xv) (fun it s₂ => ∃ I wr n p G h₂ t₂, it = .ref I ∧ s₂ = st s h₂ t₂ ∧ Src prog w A s env scope cl x px ifs elt I wr n p G h₂ ∧
      ∀ D h' t', h₂.get? D = none → Made (fun _ => True) G n p D h' → KpB wr h₂ h' → Q (.ref D) (st s h' t')) E s₁) E (st s h t))
    (hkind : scope.kind = .function := by rfl) (hnames : ∀ y ∈ scope.names, y.2 = .local → scope.names.lookup y.1 = some .local := by decide)
    (hs : ∀ x, foldedSetIterable iter env x = pure x := by intro _; rfl) :
    wpAny (model prog w) A (eval (.ListComp elt [⟨.Name x px, iter, ifs, 0⟩] scope pos) env) Q E (st s h t) := ev_comp q hclos hkind hnames hs
end
def rowOf (x : Int) : List Int := (List.range ((x.fmod 4 + 1).toNat)).map fun i => ((x.fdiv 4).fdiv (2 ^ i)).fmod 2
theorem ints_of {f : Nat → Int} : ∀ {l : List Nat} {ys : List Value}, Paired (fun i y => ∃ u, y = Value.int (f i) u) l ys → IntsAre ys (l.map f)
  | _, _, .nil => .nil
  | _, _, .cons ⟨u, e⟩ r => by subst e; exact .cons _ u (ints_of r)
theorem filter_true (l : List Nat) : l.filter (fun _ => true) = l := by induction l <;> simp_all
section
variable {prog : Program} {w : World} {M : Model} {A : Around} {E : Value → Shared → Prop} {R : Result → Shared → Prop} {s : Shared} {h : Heap} {t : Nat} {env : Env}
/-- _law_row -/
theorem row_spec {x : Int} {u : Tok} {Q : Value → Shared → Prop} (hA : AOk 2 A) (G : Gnd h)
    (q : ∀ r h' tk, Kp h h' → h.get? r = none → RowAt h' (.ref r) (rowOf x) → Q (.ref r) (st s h' tk)) : wpAny (model prog w) A (call (.ref 49) [.int x u]) Q E (st s h t) := by
  have hm0 : 0 ≤ x.fmod 4 := Int.fmod_nonneg_of_pos _ (by decide)
  have hm4 : x.fmod 4 < 4 := Int.fmod_lt_of_pos _ (by decide)
  refine call_defC (hA.less (by omega)) G.lim G.f49 (binds := [(Str.ofString "x", .int x u)]) (fun doc pm cd => by rfl) (fun doc pm cd L h₀ tk k₀ hL hcs n₀ c₀ => ?_) (fun L => ?_)
  · have hA1 := hA.deeper (callEnvC (fdOf (Str.ofString "_law_row") (dpAt 8) .none doc pm cd) L 49)
    generalize hB : A.deeper (callEnvC (fdOf (Str.ofString "_law_row") (dpAt 8) .none doc pm cd) L 49) = B at hA1 ⊢
    have cx : h₀.IsCell (L + 1) (some (.int x u)) := c₀ (Str.ofString "x") (L + 1) (by rfl)
    refine wpAny_execs_cons (wpAny_Return_some (ev_comp' (by rfl) ?_))
    refine ev_type1 (G.mono k₀) boot_range (wpAny_BinOp (wpAny_BinOp (ev_cell (c := L + 1) (by rfl) cx (ev_int fun u₁ tk₁ => mod_int' (s := st s h₀ tk₁) (by decide) (ev_int (s := s) (h := h₀) fun u₂ tk₂ => ?_)))))
    refine PyProof.Rows.add_int (s := st s h₀ tk₂) (do_range1 (s := s) (h := h₀) fun r h₁ tk₃ a b c k₁ hr R => ?_)
    refine it_range R (by omega) (by omega) (by omega) fun I h₂ k₂ hI i₂ => ?_
    have cx₂ : h₂.IsCell (L + 1) (some (.int x u)) := cx.keeps (k₁.trans k₂)
    have hIL : L + 1 ≠ I := by
      intro e
      obtain ⟨o, z, _⟩ := cx.keeps k₁
      rw [e, hI] at z; cases z
    rw [Int.sub_zero] at i₂
    refine ⟨I, [I], (x.fmod 4 + 1).toNat, fun _ => true, fun _ i y _ => ∃ u, y = .int (((x.fdiv 4).fdiv (2 ^ i)).fmod 2) u, h₂, _, rfl, rfl, Src.range hA1.hh i₂ (by omega) (fun _ _ _ _ _ _ x => x) (fun _ _ _ _ _ _ x => x) (Turn.plain ?_), ?_⟩
    · rintro good C i v h₄ t₄ E' m g1 g2 hC hi ⟨tv, rfl⟩ kb n₄ hm
      have cx₄ : h₄.IsCell (L + 1) (some (.int x u)) := by
        obtain ⟨o, e, d⟩ := cx₂
        exact ⟨o, kb _ _ (by simpa using hIL) e, d⟩
      have hp : (0 : Int) + (i : Int) * 1 = (i : Int) := by omega
      rw [hp] at hm
      have hi4 : i < 4 := by omega
      have hpw : (2 : Int) ^ ((i : Int).toNat) = 2 ^ i := by rw [Int.toNat_natCast]
      have hne : (2 : Int) ^ i ≠ 0 := by
        have : i = 0 ∨ i = 1 ∨ i = 2 ∨ i = 3 := by omega
        rcases this with rfl | rfl | rfl | rfl <;> decide
      have hsm : ((2 : Int) ^ i).natAbs < 1073741824 := by
        have : i = 0 ∨ i = 1 ∨ i = 2 ∨ i = 3 := by omega
        rcases this with rfl | rfl | rfl | rfl <;> decide
      have hbits : (Builtin.Int.intBits 2 : Int) * (i : Int) ≤ 2 ^ 27 := by
        have e : (Builtin.Int.intBits 2 : Int) = 2 := by decide +kernel
        rw [e]; omega
      refine wpAny_BinOp (wpAny_BinOp (wpAny_BinOp (ev_cell (c := L + 1) (by rfl) cx₄ (ev_int fun u₁ tk₁ => floordiv_int (s := st s h₄ tk₁) (by decide) ?_ (.inl (PyProof.noPylong_small (by decide)))))))
      refine wpAny_BinOp (ev_int (s := s) (h := h₄) fun u₂ tk₂ => ev_local n₄ hm (pow_int (s := st s h₄ tk₂) (by omega) hbits ?_))
      rw [hpw]
      refine floordiv_int (s := st s h₄ _) hne ?_ (.inl (PyProof.noPylong_small hsm))
      exact ev_int (s := s) (h := h₄) fun u₃ tk₃ => mod_int' (s := st s h₄ tk₃) (by decide) ⟨h₄, _, rfl, Kp.refl _, _, rfl⟩
    · intro D h' t' hD M kb
      obtain ⟨ys, l, P⟩ := M
      rw [filter_true] at P
      have kS : Kp h h' := KpB.kp ((k₀.trans k₁).trans k₂) kb (by simpa using none_of_kp (k₀.trans k₁) hI)
      exact q D h' t' kS (none_of_kp ((k₀.trans k₁).trans k₂) hD) ⟨D, ys, rfl, l, ints_of P⟩
  · intro x hx
    rw [List.mem_singleton.mp hx]
    exact .inr ⟨rfl, rfl⟩
end
end Mine
end
section
open PySem PySem.W PyProof.Rows PySem.SeqAt
set_option maxRecDepth 100000
set_option maxHeartbeats 4000000
namespace Mine
def rep (k : Nat) (l : List Int) : List Int := (List.replicate k l).flatten
section
variable {prog : Program} {w : World} {M : Model} {A : Around} {E : Value → Shared → Prop} {R : Result → Shared → Prop} {s : Shared} {h : Heap} {t : Nat} {env : Env}
theorem if_one {c : Expr} {cenv : Env} {Q : Bool → Shared → Prop} {s : Shared} (q : wpAny M A (isTrue c cenv (eval c cenv)) Q E s) :
    wpAny M A (forIn [c] true fun c r => if r = true then do let ok ← isTrue c cenv (eval c cenv); pure (ForInStep.yield ok) else pure (ForInStep.yield r)) Q E s := by
  rw [List.forIn_cons]
  refine wpAny_bind ?_
  rw [if_pos rfl]
  refine wpAny_bind (wpAny_mono q (fun ok s' q => wpAny_pure ?_) fun _ _ e => e)
  simp only [List.forIn_nil]
  exact wpAny_pure q
theorem ints_rep {vs : List Value} {ns : List Int} (hi : IntsAre vs ns) : ∀ k, IntsAre (List.foldl (fun x1 x2 => x1 ++ x2) (#[] : Array Value) (List.replicate k vs.toArray)).toList (rep k ns) := by
  have gen : ∀ k (acc : Array Value) (as : List Int), IntsAre acc.toList as → IntsAre (List.foldl (fun x1 x2 => x1 ++ x2) acc (List.replicate k vs.toArray)).toList (as ++ rep k ns) := by
    intro k
    induction k with
    | zero => intro acc as ha; simpa [rep] using ha
    | succ k ih =>
      intro acc as ha
      have := ih (acc ++ vs.toArray) (as ++ ns) (by rw [Array.toList_append]; exact ha.append hi)
      rw [List.replicate_succ, List.foldl_cons]
      have e : as ++ rep (k + 1) ns = as ++ ns ++ rep k ns := by unfold rep; rw [List.replicate_succ, List.flatten_cons, List.append_assoc]
      rw [e]; exact this
  intro k
  simpa using gen k #[] [] .nil
/-- x * k of a row -/
theorem do_mulRow {x : Value} {ns : List Int} {k : Nat} {u : Tok} {Q : Value → Shared → Prop} (p : RowAt h x ns) (hne : ns ≠ []) (hsz : ns.length * k ≤ 1000) (hk : k ≤ 1000)
    (q : ∀ v h', Kp h h' → RowAt h' v (rep k ns) → Q v (st s h' t)) : wpAny (model prog w) A (binaryOp .Mult x (.int (k : Int) u)) Q E (st s h t) := by
  obtain ⟨l, vs, rfl, ⟨n, hl⟩, hi⟩ := p
  have hlen := hi.length
  have hvs : vs.toArray.isEmpty = false := by
    cases vs with
    | nil => cases hi; exact absurd rfl hne
    | cons a r => rfl
  have q' := q (.ref h.objs.size) (h.push { cls := .type "list", data := .seq (List.foldl (fun x1 x2 => x1 ++ x2) #[] (List.replicate (if vs.toArray.isEmpty = true then 0 else (k : Int).toNat) vs.toArray)) 0 }) (Kp.push _ _)
    ⟨h.objs.size, (List.foldl (fun x1 x2 => x1 ++ x2) #[] (List.replicate (if vs.toArray.isEmpty = true then 0 else (k : Int).toNat) vs.toArray)).toList, rfl, ⟨0, by rw [Array.toArray_toList]; exact Heap.get?_push_size _ rfl⟩, by rw [hvs]; simpa using ints_rep hi k⟩
  have e1 : ns.length * (k : Int).toNat ≤ 2 ^ 24 := by rw [Int.toNat_natCast]; omega
  have e2 : vs.toArray.size * (k : Int).toNat ≤ 2 ^ 24 := by rw [List.size_toArray, hlen]; exact e1
  have hlo : -(2 ^ 63 : Int) ≤ (k : Int) := by omega
  have hhi : (k : Int) < 2 ^ 63 := by omega
  generalize (k : Int) = z at *
  exact wpAny_binaryOp_repeat_ref (T := "list") (U := "int") (by decide) ⟨_, hl, rfl⟩ (fun s' => typeIs_int s' z u) noFill_list_mul F.fills_int_mul F.slot_int_rmul repeat_list F.slot_int_index.lookup
    (call_meets F.slot_int_rmul (typeIs_int (st s h t) z u) F.entry_int_rmul (F.args_int_rmul_2 _ _) (int___rmul___int_list z u l vs.toArray n)
      ⟨hl, rfl, ⟨_, hl, rfl⟩, call_meets F.slot_list_mul ⟨_, hl, rfl⟩ F.entry_list_mul (F.args_list_mul_2 _ _)
        (AutoListH.list___mul___list_int_3 l vs.toArray n z u (by simp [Builtin.List.listFitsIndex]; omega) (by omega) (fun e => absurd (of_decide_eq_true e) (by show ¬ (2 ^ 24 < vs.toArray.size * z.toNat); omega)))
        ⟨hl, q'⟩⟩)
theorem do_eqRow {x y : Value} {ns ms : List Int} {s : Shared} {Q : Value → Shared → Prop} (hu : A.units + 64 < cLine) (p : RowAt s.heap x ns) (p' : RowAt s.heap y ms) (q : Q (.bool (decide (ns = ms))) s) : wpAny (model prog w) A (compareOp .Eq x y) Q E s := by
  obtain ⟨a, vs, rfl, hl, hi⟩ := p
  obtain ⟨b, us, rfl, hl', hi'⟩ := p'
  exact eq_intsK hl.isList hi hl'.isList hi' hu q
theorem row_len {x : Value} {ns : List Int} {Q : Value → Shared → Prop} (p : RowAt h x ns) (hsz : ns.length ≤ 1000) (q : ∀ u tk, Q (.int (ns.length : Int) u) (st s h tk)) : wpAny (model prog w) A (call (.builtin "len") [x]) Q E (st s h t) := by
  obtain ⟨a, vs, rfl, hl, hi⟩ := p
  have := hi.length
  refine do_len hl.isList (by omega) fun u tk => ?_
  rw [this]; exact q u tk
end
def bgs (ns : List Int) : List Nat := (List.range ns.length).filter fun i => decide (rep (ns.length / (i + 1)) (ns.take (i + 1)) = ns)
theorem paired_get {α β : Type} {F : α → β → Prop} : ∀ {l : List α} {r : List β} {i : Nat} {a : α}, Paired F l r → l[i]? = some a → ∃ b, r[i]? = some b ∧ F a b
  | _ :: _, _ :: _, 0, a, .cons x _, e => by cases e; exact ⟨_, rfl, x⟩
  | _ :: _, _ :: _, i + 1, a, .cons _ r, e => paired_get (i := i) r e
section
variable {prog : Program} {w : World} {M : Model} {A : Around} {E : Value → Shared → Prop} {R : Result → Shared → Prop} {s : Shared} {h : Heap} {t : Nat} {env : Env}
/-- _law_beginning -/
theorem beginning_spec {x : Value} {ns : List Int} {k : Nat} {Q : Value → Shared → Prop} (hA : AOk 2 A) (G : Gnd h) (p : RowAt h x ns) (hne : ns ≠ []) (hsz : ns.length ≤ 30) (hk : (bgs ns)[0]? = some k)
    (q : ∀ u h' tk, Kp h h' → Q (.int ((k + 1 : Nat) : Int) u) (st s h' tk)) : wpAny (model prog w) A (call (.ref 54) [x]) Q E (st s h t) := by
  refine call_defC (hA.less (by omega)) G.lim G.f54 (binds := [(Str.ofString "row", x)]) (fun doc pm cd => by rfl) (fun doc pm cd L h₀ tk k₀ hL hcs n₀ c₀ => ?_) (fun L => ?_)
  · have hA1 := hA.deeper (callEnvC (fdOf (Str.ofString "_law_beginning") (dpAt 9) .none doc pm cd) L 54)
    generalize hB : A.deeper (callEnvC (fdOf (Str.ofString "_law_beginning") (dpAt 9) .none doc pm cd) L 54) = B at hA1 ⊢
    have cx : h₀.IsCell (L + 1) (some x) := c₀ (Str.ofString "row") (L + 1) (by rfl)
    refine wpAny_execs_cons (wpAny_Return_some (Subscript_ (ev_comp' (by rfl) ?_)))
    refine Call_ (ev_builtin (G.mono k₀) boot_range (PySem.Pv.callWith_type1 (args_cons (ev_int fun u₁ tk₁ => args_cons (wpAny_BinOp (ev_bi1 (G.mono k₀) boot_len (ev_cell (c := L + 1) (by rfl) cx (row_len (p.mono k₀) (by omega) fun u₂ tk₂ => ev_int fun u₃ tk₃ => ?_)))))) ))
    refine PyProof.Rows.add_int (s := st s h₀ tk₃) (args_nil (do_range2 (s := s) (h := h₀) fun r h₁ tk₃ a b c k₁ hr R => ?_))
    refine it_range R (by omega) (by omega) (by omega) fun I h₂ k₂ hI i₂ => ?_
    have kS2 := (k₀.trans k₁).trans k₂
    have cx₂ : h₂.IsCell (L + 1) (some x) := cx.keeps (k₁.trans k₂)
    have hI0 : h.get? I = none := none_of_kp (k₀.trans k₁) hI
    have hIL : L + 1 ≠ I := by
      intro e
      obtain ⟨o, z, _⟩ := cx.keeps k₁
      rw [e, hI] at z; cases z
    have en : ((ns.length : Int) + 1 - 1).toNat = ns.length := by omega
    rw [en] at i₂
    refine ⟨I, [I], ns.length, fun i => decide (rep (ns.length / (i + 1)) (ns.take (i + 1)) = ns), fun _ i y _ => ∃ u, y = .int ((i + 1 : Nat) : Int) u, h₂, _, rfl, rfl, Src.range hA1.hh i₂ (by omega) (fun _ _ _ _ _ _ x => x) (fun _ _ _ _ _ _ x => x) (Turn.local ?_), ?_⟩
    · rintro good C i v h₄ t₄ E' m g1 g2 hC hi ⟨tv, rfl⟩ kb n₄ hm
      have cx₄ : h₄.IsCell (L + 1) (some x) := by
        obtain ⟨o, e, d⟩ := cx₂
        exact ⟨o, kb _ _ (by simpa using hIL) e, d⟩
      have hp : (1 : Int) + (i : Int) * 1 = ((i + 1 : Nat) : Int) := by omega
      rw [hp] at hm
      have kS4 : Kp h h₄ := KpB.kp kS2 kb (by simpa using hI0)
      obtain ⟨xa, xs, rfl, hxl, hxi⟩ := id (p.mono kS4)
      have hxlen := hxi.length
      refine if_one (wpAny_isTrue_Compare1 (wpAny_BinOp (ev_upto (ev_cell (c := L + 1) (by rfl) cx₄ (ev_local n₄ hm ⟨xa, xs, i + 1, _, h₄, _, rfl, rfl, rfl, hxl.isList, by omega, fun r₁ h₅ k₅ hr₁ l₅ => ?_⟩)))))
      have rr : RowAt h₅ (.ref r₁) (ns.take (i + 1)) := ⟨r₁, _, rfl, l₅, hxi.take _⟩
      refine wpAny_BinOp (ev_bi1 (G.mono (kS4.trans k₅)) boot_len (ev_cell (c := L + 1) (by rfl) (cx₄.keeps k₅) (row_len (p.mono (kS4.trans k₅)) (by omega) fun u₂ tk₂ => ev_local (n₄.keeps k₅) hm ?_)))
      refine floordiv_int (s := st s h₅ tk₂) (by omega) ?_ (.inl (PyProof.noPylong_small (by omega)))
      have ediv : (ns.length : Int).fdiv ((i + 1 : Nat) : Int) = ((ns.length / (i + 1) : Nat) : Int) := by
        rw [Int.fdiv_eq_ediv_of_nonneg _ (by omega)]; rfl
      rw [ediv]
      have hd1 : ns.length / (i + 1) ≤ ns.length := Nat.div_le_self _ _
      have hl1 : (ns.take (i + 1)).length ≤ 30 := by rw [List.length_take]; omega
      refine do_mulRow (s := s) (h := h₅) rr ?_ ?_ (by omega) fun v₁ h₆ k₆ r₆ => ?_
      · intro e
        have := congrArg List.length e
        rw [List.length_take, List.length_nil] at this
        have : 0 < ns.length := List.length_pos_iff.mpr hne
        omega
      · exact Nat.le_trans (Nat.mul_le_mul hl1 (Nat.le_trans hd1 hsz)) (by decide)
      refine ev_cell (c := L + 1) (by rfl) (cx₄.keeps (k₅.trans k₆)) (do_eqRow (s := st s h₆ _) (by have := hA1.hu; omega) r₆ (p.mono ((kS4.trans k₅).trans k₆)) (wpAny_truthy_bool ⟨rfl, h₆, _, rfl, k₅.trans k₆, fun _ => ?_⟩))
      exact ev_local (n₄.keeps (k₅.trans k₆)) hm ⟨h₆, _, rfl, Kp.refl _, _, rfl⟩
    · intro D h' t' hD M kb
      obtain ⟨ys, l, P⟩ := M
      obtain ⟨y, hy, u, rfl⟩ := paired_get P hk
      have kS : Kp h h' := KpB.kp kS2 kb (by simpa using hI0)
      have hyl : ys.length ≤ 1000 := by
        have := P.length
        have h2 := List.length_filter_le (fun i => decide (rep (ns.length / (i + 1)) (ns.take (i + 1)) = ns)) (List.range ns.length)
        rw [List.length_range] at h2
        omega
      refine ev_int fun u₅ tk₅ => do_item (k := 0) l.isList hy (by omega) (q u h' _ kS)
  · intro x hx
    rw [List.mem_singleton.mp hx]
    exact .inr ⟨rfl, rfl⟩
end
end Mine
end
section
open PySem PySem.W PyProof.Rows PySem.SeqAt
set_option maxRecDepth 100000
set_option maxHeartbeats 4000000
namespace Mine
theorem entry_tn : entryFor table "type.__new__" = some Builtin.«type.__new__» := entryFor_of_tree (by kernel_rfl)
theorem st_tt : isSubtype (.type "tuple") (.type "tuple") = pure true := by rw [isSubtype_type]; kernel_rfl
theorem st_dd : isSubtype (.type "dict") (.type "dict") = pure true := by rw [isSubtype_type]; kernel_rfl
theorem st_ty : isSubtype (.type "type") (.type "type") = pure true := by rw [isSubtype_type]; kernel_rfl
theorem ite_no {α : Type} {M : Model} {A : Around} {s : Shared} {Q : α → Shared → Prop} {E : Value → Shared → Prop} {c : Prop} [i : Decidable c] {a b : Sem α} (hc : ¬ c) (h : wpAny M A b Q E s) : wpAny M A (@ite _ c i a b) Q E s := by rw [if_neg hc]; exact h
theorem ite_yes {α : Type} {M : Model} {A : Around} {s : Shared} {Q : α → Shared → Prop} {E : Value → Shared → Prop} {c : Prop} [i : Decidable c] {a b : Sem α} (hc : c) (h : wpAny M A a Q E s) : wpAny M A (@ite _ c i a b) Q E s := by rw [if_pos hc]; exact h
theorem nt : ¬ ((!true) = true) := by decide
theorem nf : ¬ (false = true) := by decide
theorem to_obj : typeOf (.type "object") = pure (.type "type") := by kernel_rfl
theorem nt_obj : Builtin.notOverATurnedClass [.type "object"] = pure () := by kernel_rfl
theorem eb_obj : Builtin.extendedBase [.type "object"] = pure (.type "object") := by kernel_rfl
theorem for_cons {α β : Type} {M : Model} {A : Around} {s : Shared} {Q : β → Shared → Prop} {E : Value → Shared → Prop} {a : α} {l : List α} {b : β} {f : α → β → Sem (ForInStep β)}
    (h : wpAny M A (f a b) (fun r s' => match r with | .done b' => Q b' s' | .yield b' => wpAny M A (forIn l b' f) Q E s') E s) : wpAny M A (forIn (a :: l) b f) Q E s := by
  rw [List.forIn_cons]
  refine wpAny_bind (wpAny_mono h (fun r s' q => ?_) fun _ _ e => e)
  cases r with
  | done b' => exact wpAny_pure q
  | yield b' => exact q
theorem for_nil {α β : Type} {M : Model} {A : Around} {s : Shared} {Q : β → Shared → Prop} {E : Value → Shared → Prop} {b : β} {f : α → β → Sem (ForInStep β)} (h : Q b s) : wpAny M A (forIn [] b f) Q E s := by
  rw [List.forIn_nil]; exact wpAny_pure h
theorem bb_obj : Builtin.Slots.bestBase [.type "object"] = pure (.type "object") := by kernel_rfl
theorem sn_obj : Builtin.Slots.slotNamesOf (.type "object") = pure [] := by kernel_rfl
theorem gd_obj : Builtin.Slots.givesDict (.type "object") = pure false := by kernel_rfl
theorem gw_obj : Builtin.Slots.givesWeak (.type "object") = pure false := by kernel_rfl
theorem vs_obj : Builtin.Slots.varSize (.type "object") = pure false := by kernel_rfl
theorem as_none {M : Model} {A : Around} {s : Shared} {h : Heap} {t : Nat} {E : Value → Shared → Prop} {Q : Option Str → Shared → Prop} {a : Addr} {o : Obj} {vs : Array Value} {n : Nat} (ho : h.get? a = some o) (hd : o.data = .seq vs n) (q : Q none (st s h t)) :
    wpAny M A (asStr? (.ref a)) Q E (st s h t) := by
  refine wpAny_bind (wpAny_load (s := st s h t) ho ?_)
  rw [hd]
  exact wpAny_pure q
theorem id_obj : Builtin.Slots.isIdentifier (Str.ofString "obj") = some true := by decide +kernel
theorem mg_obj : Builtin.Slots.mangle (Str.ofString "K") (Str.ofString "obj") = Str.ofString "obj" := by decide +kernel
theorem for_arr {α β : Type} {M : Model} {A : Around} {s : Shared} {Q : β → Shared → Prop} {E : Value → Shared → Prop} {l : List α} {b : β} {f : α → β → Sem (ForInStep β)} (h : wpAny M A (forIn l b f) Q E s) : wpAny M A (forIn l.toArray b f) Q E s := by
  rw [List.forIn_toArray]; exact h
theorem slots_read {prog : Program} {w : World} {A : Around} {s : Shared} {h : Heap} {t : Nat} {E : Value → Shared → Prop} {Q : Builtin.Slots.Plan → Shared → Prop} {es : Array DictEntry} {e : DictEntry} {sl n : Nat} {k : Tok}
    (he : es.find? (fun e => e.key.isStr (Str.ofString "__slots__")) = some e) (hv : e.val = .ref sl) (hs : h.get? sl = some ⟨.type "list", none, .seq #[.str (Str.ofString "obj") k] n, #[]⟩)
    (ho : es.any (fun e => e.key.isStr (Str.ofString "obj")) = false)
    (q : ∀ h' , Kp h h' → Q { names := [Str.ofString "obj"], dict := false, weak := false, inherited := [] } (st s h' t)) :
    wpAny (model prog w) A (Builtin.Slots.read (Str.ofString "K") [.type "object"] es) Q E (st s h t) := by
  refine wpAny_bind (wpAny_of_eq bb_obj ?_)
  refine wpAny_bind (wpAny_of_eq sn_obj ?_)
  refine wpAny_bind (wpAny_of_eq gd_obj ?_)
  refine wpAny_bind (wpAny_of_eq gw_obj ?_)
  refine wpAny_bind (wpAny_of_eq vs_obj ?_)
  rw [he]
  refine wpAny_bind (wpAny_rule ?_)
  rw [hv]
  refine wpAny_bind (as_none hs rfl ?_)
  refine ite_no nf ?_
  refine wpAny_bind (wpAny_collect_seq (s := st s h t) sl (.inl rfl) hs rfl rfl (fun h' k' => ?_) (by show 1 ≤ sizeLine; decide))
  refine ite_yes rfl ?_
  refine wpAny_bind (wpAny_of_eq vs_obj ?_)
  refine ite_no nf ?_
  refine wpAny_bind (for_cons (a := Value.str (Str.ofString "obj") k) (l := []) ?_)
  refine wpAny_bind (wpAny_pure ?_)
  refine wpAny_bind (wpAny_pure ?_)
  refine wpAny_bind (wpAny_pure ?_)
  rw [id_obj]
  refine wpAny_bind (wpAny_pure ?_)
  refine ite_no nt ?_
  refine ite_no (by decide) ?_
  refine ite_no (by decide) ?_
  refine wpAny_pure (for_nil ?_)
  refine wpAny_bind (for_arr (l := [Str.ofString "obj"]) (for_cons ?_))
  rw [mg_obj]
  refine ite_no (by decide) ?_
  refine ite_no (by rw [ho]; decide) ?_
  refine ite_no (by decide) (wpAny_pure (for_nil ?_))
  refine wpAny_bind (for_cons (ite_no (by decide) (wpAny_pure (for_nil (wpAny_pure ?_)))))
  exact q h' k'
end Mine
end
section
open PySem PySem.W PySem.W.X PyProof.Rows PySem.SeqAt
set_option maxRecDepth 100000
set_option maxHeartbeats 4000000
namespace Mine
theorem sl_super : Slot "super" (Str.ofString "__getattribute__") "super.__getattribute__" :=
  Slot.of (T := "super") (name := "__getattribute__") (owner := "super") (n := "__getattribute__") (by rw [typeLookup_type, builtinLookup_eq_fast]; kernel_rfl) (by decide +kernel) (by decide +kernel) (by decide +kernel)
    (.inl (by decide +kernel)) (by rw [isSubtype_type]; kernel_rfl)
theorem entry_sg : entryFor table "super.__getattribute__" = some Builtin.«super.__getattribute__» := entryFor_of_tree (by kernel_rfl)
theorem args_sg (a b : Value) : argsOk "super.__getattribute__" ⟨[a, b], []⟩ := by unfold argsOk; kernel_rfl
theorem own_is : builtinOwn "object" (Str.ofString "__init_subclass__") = some (.builtin "object.__init_subclass__") := by kernel_rfl
theorem ty_is : typeOf (.builtin "object.__init_subclass__") = pure (.type "classmethod_descriptor") := by kernel_rfl
theorem get_is : typeLookup (.type "classmethod_descriptor") (Str.ofString "__get__") = pure (some (.builtin "classmethod_descriptor.__get__")) := by rw [typeLookup_type, builtinLookup_eq_fast]; kernel_rfl
abbrev supObj (C : Addr) : Obj := { cls := .type "super", dict := none, data := .fields #[.ref C, .ref C, .ref C], slots := #[] }
section
local macro_rules | `(tactic| x_close) => `(tactic| (rename (∀ (r : Addr) (h' : Heap) (tk : Nat), _) => q'; rename Mem _ _ _ _ => D; refine q' _ _ _ (fun b o e => D.keep b o e (by cases hasCls o <;> rfl)) (D.nw _ (.head _)).2 (D.nw _ (.head _)).1))
theorem super_call {prog : Program} {w : World} {A : Around} {E : Value → Shared → Prop} {s : Shared} {h : Heap} {t : Nat} {C : Addr} {a1 a4 : Str} {a2 : List Value} {a3 : Addr} {a5 a8 a10 : Bool} {a6 : List Str} {a7 : List Value} {sl : Array (Option Value)} {Q : Value → Shared → Prop}
    (hC : h.get? C = some ⟨.type "type", none, .cls { name := a1, bases := a2, mro := [.ref C, .type "object"], ns := a3, qualname := a4, hasDict := a5, slotNames := a6, subclasses := a7, abstract := a8, hasDel := a10 }, sl⟩)
    (q : ∀ r h' tk, (∀ b o, h.get? b = some o → h'.get? b = some o) → h.get? r = none → h'.get? r = some (supObj C) → Q (.ref r) (⟨h', s.gens, s.drawn, tk, s.os⟩)) : wpAny (model prog w) A (call (.type "super") [.ref C, .ref C]) Q E (⟨h, s.gens, s.drawn, t, s.os⟩) := by
  x_run
end
abbrev bisObj (C : Addr) : Obj := { cls := .type "builtin_function_or_method", dict := none, data := .fields #[.builtin "object.__init_subclass__", .ref C], slots := #[] }
section
local macro_rules | `(tactic| x_close) => `(tactic| (rename (∀ (r : Addr) (h' : Heap) (tk : Nat), _) => q'; rename Mem _ _ _ _ => D; refine q' _ _ _ (fun b o e => D.keep b o e (by cases hasCls o <;> rfl)) (D.nw _ (.head _)).2 (D.nw _ (.head _)).1))
theorem get_call {prog : Program} {w : World} {A : Around} {E : Value → Shared → Prop} {s : Shared} {h : Heap} {t : Nat} {C : Addr} {a1 a4 : Str} {a2 : List Value} {a3 : Addr} {a5 a8 a10 : Bool} {a6 : List Str} {a7 : List Value} {sl : Array (Option Value)} {Q : Value → Shared → Prop}
    (hC : h.get? C = some ⟨.type "type", none, .cls { name := a1, bases := a2, mro := [.ref C, .type "object"], ns := a3, qualname := a4, hasDict := a5, slotNames := a6, subclasses := a7, abstract := a8, hasDel := a10 }, sl⟩)
    (q : ∀ r h' tk, (∀ b o, h.get? b = some o → h'.get? b = some o) → h.get? r = none → h'.get? r = some (bisObj C) → Q (.ref r) (⟨h', s.gens, s.drawn, tk, s.os⟩)) : wpAny (model prog w) A (call (.builtin "classmethod_descriptor.__get__") [.builtin "object.__init_subclass__", .none, .ref C]) Q E (⟨h, s.gens, s.drawn, t, s.os⟩) := by
  x_run
end
section
local macro_rules | `(tactic| x_close) => `(tactic| (rename (∀ (v : Value) (tk : Nat), _) => q'; exact q' _ _))
theorem is_call {prog : Program} {w : World} {A : Around} {E : Value → Shared → Prop} {s : Shared} {h : Heap} {t : Nat} {C f : Addr}  {a2 : List Value} {a3 : Addr} {a5 a8 a10 : Bool} {a6 : List Str} {a7 : List Value} {sl : Array (Option Value)} {Q : Value → Shared → Prop}
    (hC : h.get? C = some ⟨.type "type", none, .cls { name := Str.ofString "K", bases := a2, mro := [.ref C, .type "object"], ns := a3, qualname := Str.ofString "cmp_to_key.<locals>.K", hasDict := a5, slotNames := a6, subclasses := a7, abstract := a8, hasDel := a10 }, sl⟩)
    (hf : h.get? f = some { cls := .type "builtin_function_or_method", dict := none, data := .fields #[.builtin "object.__init_subclass__", .ref C], slots := #[] })
    (q : ∀ v tk, Q v (⟨h, s.gens, s.drawn, tk, s.os⟩)) : wpAny (model prog w) A (call (.ref f) []) Q E (⟨h, s.gens, s.drawn, t, s.os⟩) := by
  x_run
end
section
variable {prog : Program} {w : World} {A : Around} {E : Value → Shared → Prop} {s : Shared} {h : Heap} {t : Nat}
theorem super_attr {sup C : Addr} {a1 a4 : Str} {a2 : List Value} {a3 : Addr} {a5 a8 a10 : Bool} {a6 : List Str} {a7 : List Value} {sl : Array (Option Value)} {Q : Value → Shared → Prop} (hs : h.get? sup = some (supObj C))
    (hC : h.get? C = some ⟨.type "type", none, .cls { name := a1, bases := a2, mro := [.ref C, .type "object"], ns := a3, qualname := a4, hasDict := a5, slotNames := a6, subclasses := a7, abstract := a8, hasDel := a10 }, sl⟩)
    (hst : h.get? 2 = some { cls := .none, dict := none, data := .dict #[], slots := #[] })
    (q : ∀ f h' tk, Kp h h' → h'.get? f = some (bisObj C) → Q (.ref f) (st s h' tk)) : wpAny (model prog w) A (getAttr (.ref sup) (Str.ofString "__init_subclass__")) Q E (st s h t) := by
  have hop : Looks (model prog w) h anyOpaqueLoaded false := fun A Q E s k q => wpAny_bind (wpAny_nsGet (m := fun _ => none) ⟨_, #[], _, k _ _ hst, rfl, fun e he => by simp at he, fun _ => rfl⟩ (wpAny_pure q))
  have hT : ∀ t, (st s h t).TypeIs (.ref sup) "super" := fun _ => ⟨_, hs, rfl⟩
  refine wpAny_bind (wpAny_mkText (s := st s h t) (wpAny_holding (wpAny_bind (wpAny_typeOf (hT (t + 1)) (wpAny_bind (wpAny_of_eq sl_super.lookup ?_))))))
  refine wpAny_bind (wpAny_pure (wpAny_bind (wpAny_attempt (wpAny_holding ?_))))
  show wpAny _ _ (boundAndCalled _ _ _) _ _ _
  unfold boundAndCalled
  rw [sl_super.bind]
  refine wpAny_bind (wpAny_pure (wpAny_call_entry sl_super (hT (t + 1)) entry_sg ?_ (args_sg _ _)))
  refine wpAny_bind (wpAny_pure (ite_no (by decide) (wpAny_bind (wpAny_pure ?_))))
  refine wpAny_bind (wpAny_field (s := st s h (t + 1)) hs rfl rfl ?_)
  refine wpAny_bind (wpAny_field (s := st s h (t + 1)) hs rfl rfl ?_)
  refine wpAny_bind (wpAny_field (s := st s h (t + 1)) hs rfl rfl ?_)
  have e1 : (Value.ref C == Value.none) = false := rfl
  have e2 : (Str.ofString "__init_subclass__" == Str.ofString "__class__") = false := by decide
  have e3 : (Value.ref C == Value.type "module") = false := rfl
  have e4 : (Value.ref C == Value.ref C) = true := by simp
  refine ite_no (by show ¬ ((Value.ref C == Value.none || Str.ofString "__init_subclass__" == Str.ofString "__class__") = true); rw [e1, e2]; decide) ?_
  refine wpAny_bind (wpAny_bind (wpAny_bind (hop.here (s := st s h (t + 1)) (ite_yes rfl (wpAny_pure (wpAny_pure ?_))))))
  refine ite_no (by show ¬ ((Value.ref C == Value.type "module") = true); rw [e3]; decide) ?_
  refine wpAny_bind (wpAny_bind (wpAny_bind (wpAny_load (s := st s h (t + 1)) hC (wpAny_pure (wpAny_pure ?_)))))
  refine wpAny_bind ?_
  rw [show List.drop 1 (List.dropWhile (fun x => x != #[Value.ref C, Value.ref C, Value.ref C][0]) [Value.ref C, Value.type "object"]) = [Value.type "object"] by simp [List.dropWhile]]
  refine for_cons (wpAny_bind (wpAny_pure ?_))
  rw [own_is]
  refine wpAny_bind (wpAny_of_eq ty_is (wpAny_bind (wpAny_of_eq get_is (wpAny_bind (wpAny_holding ?_)))))
  rw [show (if (#[Value.ref C, Value.ref C, Value.ref C][1] == #[Value.ref C, Value.ref C, Value.ref C][2]) = true then Value.none else #[Value.ref C, Value.ref C, Value.ref C][1]) = Value.none by simp]
  refine get_call (s := s) hC fun f h' tk k' hf hf' => ?_
  exact wpAny_bind (wpAny_pure (wpAny_pure (wpAny_pure ⟨_, rfl, wpAny_pure (q f h' tk k' hf')⟩)))
end
end Mine
end
section
open PySem PySem.W PyProof.Rows PySem.SeqAt
set_option maxRecDepth 100000
set_option maxHeartbeats 4000000
namespace Mine
section
variable {prog : Program} {w : World} {M : Model} {A : Around} {E : Value → Shared → Prop} {s : Shared} {h : Heap} {t : Nat}
theorem do_new {T : String} {data : Data} {dict : Option Addr} {Q : Value → Shared → Prop} (hd : sizeOk data) (hf : Obj.isFreed { cls := .type T, dict, data } = false)
    (q : ∀ r h', Kp h h' → h.get? r = none → h'.get? r = some { cls := .type T, dict, data } → Q (.ref r) (st s h' t)) : wpAny M A (newObj (.type T) data dict) Q E (st s h t) :=
  wpAny_newObj_type (s := st s h t) (q _ _ (Kp.push _ _) none_of_size (Heap.get?_push_size _ hf)) hd
theorem do_alloc {o : Obj} {Q : Addr → Shared → Prop} (hf : o.isFreed = false) (q : ∀ r h', Kp h h' → h.get? r = none → h'.get? r = some o → Q r (st s h' t)) : wpAny M A (alloc o) Q E (st s h t) :=
  wpAny_alloc (s := st s h t) (q _ _ (Kp.push _ _) none_of_size (Heap.get?_push_size _ hf))
theorem do_slot {a : Addr} {i : Nat} {v : Option Value} {o : Obj} {Q : Unit → Shared → Prop} (ho : h.get? a = some o) (hi : i < 1000) (hf : o.isFreed = false)
    (q : ∀ h', h'.get? a = some { o with slots := (o.slots ++ Array.replicate (i + 1 - o.slots.size) none).setIfInBounds i v } → Heap.SameBut a h h' → Q () (st s h' t)) : wpAny M A (setSlotAt a i v) Q E (st s h t) := by
  have hz : sizeLine = 16777216 := rfl
  refine ite_no (by omega) (wpAny_updatePart (s := st s h t) ho (q _ (Heap.get?_update_self _ ho ?_) (Heap.SameBut.update ..)))
  obtain ⟨c, d, dt, sl⟩ := o
  cases dt <;> first | rfl | exact hf
theorem do_ucls {a : Addr} {f : ClassData → ClassData} {o : Obj} {cd : ClassData} {Q : Unit → Shared → Prop} (ho : h.get? a = some o) (hd : o.data = .cls cd) (hp : (Data.cls (f cd)).pastItsLine = none)
    (q : ∀ h', h'.get? a = some { o with data := .cls (f cd) } → Heap.SameBut a h h' → Q () (st s h' t)) : wpAny M A (updateCls a f) Q E (st s h t) := by
  obtain ⟨c, d, dt, sl⟩ := o
  simp only at hd
  subst hd
  have e := Heap.get?_update_self (Obj.mapCls f) ho rfl
  refine wpAny_bind (wpAny_load (s := st s h t) ho (wpAny_bind (wpAny_update (s := st s h t) ho (wpAny_bind (wpAny_loadPart (s := st s _ t) e ?_)))))
  rw [show (Obj.mapCls f ⟨c, d, .cls cd, sl⟩).data.pastItsLine = none from hp]
  exact wpAny_pure (q _ e (Heap.SameBut.update ..))
end
theorem mh_ty : Builtin.mroHook? (.type "type") = pure none := by kernel_rfl
theorem ln_obj : Builtin.linearize [.type "object"] mroOf = pure [.type "object"] := by kernel_rfl
theorem mb_obj : Bind.madeBy (.type "object") = pure (some "object.__new__") := by kernel_rfl
theorem look_cls {M : Model} {A : Around} {E : Value → Shared → Prop} {s : Shared} {h : Heap} {t : Nat} {C N : Addr} {o : Obj} {cd : ClassData} {m : Str → Option Value} {name : Str} {r : Option Value} {Q : Option Value → Shared → Prop}
    (ho : h.get? C = some o) (hd : o.data = .cls cd) (hmro : cd.mro = [.ref C, .type "object"]) (hns : cd.ns = N) (n : h.Ns N m) (hr : (m name).orElse (fun _ => builtinOwn "object" name) = r) (q : Q r (st s h t)) :
    wpAny M A (typeLookup (.ref C) name) Q E (st s h t) := by
  have hcd : ∀ {Q' : ClassData → Shared → Prop}, Q' cd (st s h t) → wpAny M A (classData C) Q' E (st s h t) := fun q' => by
    refine wpAny_bind (wpAny_load (s := st s h t) ho ?_)
    rw [hd]
    exact wpAny_pure q'
  refine wpAny_bind (wpAny_bind (hcd (wpAny_pure ?_)))
  rw [hmro]
  refine wpAny_bind (for_cons (wpAny_bind (wpAny_bind (hcd ?_))))
  rw [hns]
  refine wpAny_nsGet (s := st s h t) n ?_
  cases hmn : m name with
  | some v =>
    rw [hmn] at hr
    subst hr
    exact wpAny_pure (wpAny_pure q)
  | none =>
    rw [hmn] at hr
    refine wpAny_pure (for_cons (wpAny_bind (wpAny_pure ?_)))
    cases hb : builtinOwn "object" name with
    | some v =>
      have : r = some v := hr.symm.trans hb
      subst this
      exact wpAny_pure (wpAny_pure q)
    | none =>
      have : r = none := hr.symm.trans hb
      subst this
      exact wpAny_pure (for_nil (wpAny_pure q))
theorem pl_cls {c : ClassData} (h1 : c.subclasses.length ≤ 10) (h2 : c.slotNames.length ≤ 10) : (Data.cls c).pastItsLine = none := by
  have hz : sizeLine = 16777216 := rfl
  have e1 : ¬ c.subclasses.length > sizeLine := by omega
  have e2 : ¬ c.slotNames.length > sizeLine := by omega
  show (if (decide (c.subclasses.length > sizeLine) || decide (c.slotNames.length > sizeLine)) = true then _ else none) = none
  rw [decide_eq_false e1, decide_eq_false e2]; rfl
theorem own_new : builtinOwn "object" (Str.ofString "__new__") = some (.builtin "object.__new__") := by kernel_rfl
theorem ends_new : ("object.__new__".endsWith ".__new__") = true := by decide +kernel
theorem refresh {M : Model} {A : Around} {E : Value → Shared → Prop} {s : Shared} {h : Heap} {t : Nat} {C N : Addr} {o : Obj} {cd : ClassData} {m : Str → Option Value} {Q : Unit → Shared → Prop}
    (ho : h.get? C = some o) (h4 : (o.slots[4]?).join = some (.builtin "object.__new__")) (hd : o.data = .cls cd) (hmro : cd.mro = [.ref C, .type "object"]) (hns : cd.ns = N) (n : h.Ns N m) (hr : m (Str.ofString "__new__") = none) (q : Q () (st s h t)) :
    wpAny M A (Bind.refreshMaker C) Q E (st s h t) := by
  refine wpAny_bind (wpAny_bind (wpAny_loadPart (s := st s h t) ho (wpAny_pure ?_)))
  rw [h4]
  refine ite_no (by decide) ?_
  refine wpAny_bind (look_cls (r := some (.builtin "object.__new__")) ho hd hmro hns n (by rw [hr]; exact own_new) ?_)
  refine ite_no (by rw [ends_new]; decide) (wpAny_pure q)
theorem keys_le : ∀ (l : List DictEntry) (names : List Str), (∀ e ∈ l, ∃ n t, e.key = .str n t) → l.Pairwise (fun a b => ∀ n, a.key.isStr n = true → b.key.isStr n = true → False) →
    (∀ e ∈ l, ∀ n, e.key.isStr n = true → n ∈ names) → l.length ≤ names.length
  | [], _, _, _, _ => Nat.zero_le _
  | e :: l, names, hk, hp, hn => by
    obtain ⟨n, t, he⟩ := hk e (.head _)
    have hself : e.key.isStr n = true := by rw [he]; simp [Value.isStr]
    have hmem := hn e (.head _) n hself
    rw [List.pairwise_cons] at hp
    have ih := keys_le l (names.erase n) (fun x hx => hk x (.tail _ hx)) hp.2 fun x hx k hkx => by
      have : k ≠ n := fun e' => hp.1 x hx n hself (e' ▸ hkx)
      exact (List.mem_erase_of_ne this).mpr (hn x (.tail _ hx) k hkx)
    rw [List.length_erase_of_mem hmem] at ih
    have := List.length_pos_of_mem hmem
    rw [List.length_cons]; omega
theorem ns1_size {h : Heap} {N : Addr} {m : Str → Option Value} (n : h.Ns1 N m) (names : List Str) (hs : ∀ x, m x ≠ none → x ∈ names) {o : Obj} {es : Array DictEntry} {ep : Nat} (ho : h.get? N = some o) (hd : o.data = .dict es ep) : es.size ≤ names.length := by
  obtain ⟨o', es', ep', ho', hd', hk, hu, hm⟩ := n
  rw [ho] at ho'; cases ho'
  rw [hd] at hd'; cases hd'
  have := keys_le es.toList names (fun e he => hk e (Array.mem_toList_iff.mp he)) hu fun e he x hx => hs x (by
    rw [← hm x]
    simp only [nsFind, findBy, ne_eq, Option.map_eq_none_iff, Array.find?_eq_none]
    intro hall
    exact hall e (Array.mem_toList_iff.mp he) hx)
  simpa using this
theorem setv_K {M : Model} {A : Around} {E : Value → Shared → Prop} {s : Shared} {h : Heap} {t : Nat} {N : Addr} {m : Str → Option Value} {name : Str} {v : Value} {Q : Unit → Shared → Prop} (names : List Str) (hs : ∀ x, m x ≠ none → x ∈ names) (hsz : names.length ≤ 100)
    (n : h.Ns1 N m) (q : ∀ h', h'.Ns1 N (fun x => if x = name then some v else m x) → Heap.SameBut N h h' → Q () (st s h' (t + 1))) : wpAny M A (nsSetByValue N name v) Q E (st s h t) := by
  obtain ⟨o, es, ep, ho, hd, r⟩ := id n
  have hz : sizeLine = 16777216 := rfl
  have hle := ns1_size n names hs ho hd
  refine wpAny_bind (wpAny_loadPart (s := st s h t) ho ?_)
  rw [hd]
  refine ite_no ?_ (wpAny_nsSet1 (s := st s h t) n q)
  have : decide (es.size > sizeLine) = false := decide_eq_false (by omega)
  rw [this]; simp
theorem for_same {α β : Type} {M : Model} {A : Around} {s : Shared} {Q : β → Shared → Prop} {E : Value → Shared → Prop} {b : β} {f : α → β → Sem (ForInStep β)} : ∀ (l : List α), (∀ a ∈ l, ∀ (Q' : ForInStep β → Shared → Prop), Q' (.yield b) s → wpAny M A (f a b) Q' E s) → Q b s → wpAny M A (forIn l b f) Q E s
  | [], _, q => for_nil q
  | a :: l, hf, q => for_cons (hf a (.head _) _ (for_same l (fun x hx => hf x (.tail _ hx)) q))
theorem for_sameA {α β : Type} {M : Model} {A : Around} {s : Shared} {Q : β → Shared → Prop} {E : Value → Shared → Prop} {b : β} {f : α → β → Sem (ForInStep β)} (l : Array α) (hf : ∀ a ∈ l, ∀ (Q' : ForInStep β → Shared → Prop), Q' (.yield b) s → wpAny M A (f a b) Q' E s) (q : Q b s) : wpAny M A (forIn l b f) Q E s := by
  obtain ⟨l⟩ := l
  exact for_arr (for_same l (fun a ha => hf a (by simpa using ha)) q)
theorem find_uniq (l : List DictEntry) (e : DictEntry) (n : Str) (t : Tok) : l.Pairwise (fun a b => ∀ n, a.key.isStr n = true → b.key.isStr n = true → False) → e ∈ l → e.key = .str n t → l.find? (fun e => e.key.isStr n) = some e := by
  intro hp hm hk
  have hself : e.key.isStr n = true := by rw [hk]; simp [Value.isStr]
  induction l with
  | nil => cases hm
  | cons x l ih =>
    rw [List.pairwise_cons] at hp
    rcases List.mem_cons.mp hm with hx | hm
    · rw [← hx, List.find?_cons, hself]
    · have : x.key.isStr n = false := by
        cases hx : x.key.isStr n with
        | false => rfl
        | true => exact (hp.1 e hm n hx hself).elim
      rw [List.find?_cons, this]
      exact ih hp.2 hm
theorem nsFind_uniq {es : Array DictEntry} (hu : UniqKeys es) {e : DictEntry} {n : Str} {t : Tok} (he : e ∈ es) (hk : e.key = .str n t) : nsFind es n = some e.val := by
  obtain ⟨l⟩ := es
  simp only [nsFind, findBy, List.find?_toArray]
  rw [find_uniq l e n t hu (by simpa using he) hk]; rfl
/-- a value with nothing to be told of its name -/
def NoSN (M : Model) (h : Heap) (v : Value) : Prop := (∀ k t, Builtin.laidUnderItsOwnName (.str k t) v = false) ∧ Looks M h (specialOf v (Str.ofString "__set_name__")) none
theorem sn_none {M : Model} {h : Heap} : NoSN M h .none := ⟨fun _ _ => rfl, Looks.of_pure (by kernel_rfl)⟩
theorem sn_type {M : Model} {h : Heap} {a : Addr} {o : Obj} {T : String} (ho : h.get? a = some o) (hc : o.cls = .type T) (hl : typeLookup (.type T) (Str.ofString "__set_name__") = pure none) : NoSN M h (.ref a) :=
  ⟨fun _ _ => rfl, fun A Q E s k q => wpAny_bind (wpAny_typeOf ⟨_, k _ _ ho, hc⟩ (wpAny_of_eq hl q))⟩
theorem sn_md : typeLookup (.type "member_descriptor") (Str.ofString "__set_name__") = pure none := by rw [typeLookup_type, builtinLookup_eq_fast]; kernel_rfl
abbrev descr (C : Addr) (tk : Tok) : Obj := { cls := .type "member_descriptor", dict := none, data := .fields #[.str (Str.ofString "obj") tk, .ref C, .builtin "proto.slot", .builtin "proto.slot#set", .int 0 0], slots := #[] }
theorem install_K {M : Model} {A : Around} {E : Value → Shared → Prop} {s : Shared} {h : Heap} {t : Nat} {C N : Addr} {o : Obj} {cd : ClassData} {m : Str → Option Value} {bs : List Value} {Q : Unit → Shared → Prop} (hbs : bs = [.type "object"])
    (ho : h.get? C = some o) (hd : o.data = .cls cd) (hsub : cd.subclasses.length ≤ 10) (n : h.Ns1 N m) (hNC : N ≠ C) (hr : m (Str.ofString "obj") = none) (names : List Str) (hs : ∀ x, m x ≠ none → x ∈ names) (hsz : names.length ≤ 100)
    (q : ∀ p h' tk tk', h.get? p = none → h'.get? p = some (descr C tk') → h'.Ns1 N (fun x => if x = Str.ofString "obj" then some (.ref p) else m x) → h'.get? C = some { o with data := .cls { cd with hasDict := false, slotNames := [Str.ofString "obj"] } } → KpB [C, N] h h' → Q () (st s h' tk)) :
    wpAny M A (Builtin.Slots.install (.ref C) N bs { names := [Str.ofString "obj"], dict := false, weak := false, inherited := [] }) Q E (st s h t) := by
  subst hbs
  refine wpAny_bind (for_cons (wpAny_bind (wpAny_nsGet (s := st s h t) n.ns ?_)))
  rw [hr]
  refine ite_yes rfl ?_
  refine wpAny_bind (m := mkStr (Str.ofString "obj")) (wpAny_mkStr (s := st s h t) ?_ (by decide))
  refine wpAny_bind (do_new (s := s) (h := h) (by show 5 ≤ sizeLine + 2; decide) rfl fun p h₁ k₁ hp l₁ => ?_)
  have o₁ := k₁ _ _ ho
  refine wpAny_bind (setv_K names hs hsz (n.at fun o e => k₁ _ o e) fun h₂ n₂ b₂ => wpAny_pure (for_nil ?_))
  have hpN : p ≠ N := (ns_ne n.ns hp).symm
  have hpC : p ≠ C := (ne_of_none ho hp).symm
  refine wpAny_bind (for_cons (wpAny_bind (wpAny_of_eq gd_obj (ite_no nf (wpAny_pure (for_nil ?_))))))
  refine ite_no (by decide) ?_
  have c₂ := (b₂.2 C (Ne.symm hNC)).trans o₁
  refine do_ucls c₂ hd (pl_cls hsub (by show 1 ≤ 10; decide)) fun h₃ c₃ b₃ => ?_
  refine q p h₃ _ t hp ((b₃.2 p hpC).trans ((b₂.2 p hpN).trans l₁)) (n₂.sameBut b₃ hNC) c₃ fun b o' hb e => ?_
  simp only [List.mem_cons, List.not_mem_nil, or_false, not_or] at hb
  exact (b₃.2 b hb.1).trans ((b₂.2 b hb.2).trans (k₁ _ _ e))
theorem type_new {prog : Program} {w : World} {A : Around} {R : Result → Shared → Prop} {s : Shared} {h : Heap} {t : Nat} (bT ns n1 n2 : Nat) (t1 : Tok) (es : Array DictEntry)
  (hb : h.get? bT = some ⟨.type "tuple", none, .seq #[.type "object"] n1, #[]⟩)
  (hn : h.get? ns = some ⟨.type "dict", none, .dict es n2, #[]⟩) (hns : (ns == sysModules) = false) (m : Str → Option Value) (hk : StrKeys es) (hun : UniqKeys es) (hm : ∀ name, nsFind es name = m name)
  (e0 : DictEntry) (sl n3 : Nat) (k0 : Tok) (he : es.find? (fun e => e.key.isStr (Str.ofString "__slots__")) = some e0) (hv : e0.val = .ref sl) (hs : h.get? sl = some ⟨.type "list", none, .seq #[.str (Str.ofString "obj") k0] n3, #[]⟩)
  (ho : es.any (fun e => e.key.isStr (Str.ofString "obj")) = false) (hmod : es.any (fun e => e.key.isStr (Str.ofString "__module__")) = true) (hdel : es.any (fun e => e.key.isStr (Str.ofString "__del__")) = false) (hsz : es.size ≤ 1000)
  (tq : Tok) (m1 : m (Str.ofString "__qualname__") = some (.str (Str.ofString "cmp_to_key.<locals>.K") tq)) (m2 : m (Str.ofString "__doc__") = none) (m3 : m (Str.ofString "__new__") = none) (m4 : m (Str.ofString "__init_subclass__") = none) (m5 : m (Str.ofString "__class_getitem__") = none)
  (names : List Str) (hnm : ∀ x, m x ≠ none → x ∈ names) (hnl : names.length ≤ 50) (m0 : m (Str.ofString "obj") = none) (hSN : ∀ x v, m x = some v → NoSN (model prog w) h v) (hst : h.get? 2 = some { cls := .none, dict := none, data := .dict #[], slots := #[] }) (v8 v9 : Value) (m8 : m (Str.ofString "__eq__") = some v8) (m9 : m (Str.ofString "__hash__") = some v9)
  (m6 : m (Str.ofString "__classcell__") = none) (m7 : m (Str.ofString "__classdictcell__") = none)
  (q : ∀ (C N p : Addr) (h' : Heap) (tk : Nat) (tkp : Tok) (m' : Str → Option Value) (cd : ClassData) (sl : Array (Option Value)), Kp h h' → h.get? C = none → h.get? N = none → h.get? p = none → h'.get? C = some ⟨.type "type", none, .cls cd, sl⟩ → (sl[4]?).join = some (.builtin "object.__new__") →
    cd.mro = [.ref C, .type "object"] → cd.ns = N → cd.slotNames = [Str.ofString "obj"] → cd.hasDict = false → cd.abstract = false → cd.hasDel = false → h'.Ns1 N m' → (∀ x, x ∉ [Str.ofString "__doc__", Str.ofString "obj", Str.ofString "__qualname__"] → m' x = m x) → m' (Str.ofString "obj") = some (.ref p) → h'.get? p = some (descr C tkp) → R (.ok (.ret (.ref C))) (st s h' tk)) :
  codeAny (model prog w) A (.builtin "type.__new__" ⟨[.type "type", .str (Str.ofString "K") t1, .ref bT, .ref ns], []⟩) R (st s h t) := by
  refine codeAny_builtin entry_tn ?_
  generalize A.under _ = B
  have T1 : (st s h t).TypeIs (.ref bT) "tuple" := ⟨_, hb, rfl⟩
  have T2 : (st s h t).TypeIs (.ref ns) "dict" := ⟨_, hn, rfl⟩
  refine wpAny_bind (wpAny_pure ?_)
  refine wpAny_bind (wpAny_isInstance T1 st_tt (ite_no (by decide) ?_))
  refine wpAny_bind (wpAny_isInstance T2 st_dd (ite_no (by decide) ?_))
  refine wpAny_bind (wpAny_seqItems (s := st s h t) hb rfl ?_)
  refine ite_no (by decide) ?_
  refine wpAny_bind (for_cons (a := Value.type "object") (l := []) (wpAny_bind (wpAny_pure (ite_no nt (wpAny_pure (for_nil ?_))))))
  refine wpAny_bind (for_cons (a := Value.type "object") (l := []) (wpAny_bind (wpAny_of_eq to_obj (wpAny_bind (wpAny_of_eq st_ty (ite_yes rfl (wpAny_pure (for_nil ?_))))))))
  refine ite_no (by decide) ?_
  refine wpAny_bind (wpAny_of_eq nt_obj ?_)
  refine wpAny_bind (wpAny_of_eq eb_obj ?_)
  refine ite_no (by rw [hns]; decide) ?_
  refine wpAny_bind (wpAny_dictEntries (s := st s h t) hn rfl ?_)
  refine wpAny_bind (wpAny_specialOf (name := Str.ofString "__iter__") T2 F.slot_dict_iter.lookup ?_)
  refine ite_yes (by rw [Bool.or_eq_true]; exact .inr (by decide)) (wpAny_bind (wpAny_pure ?_))
  refine wpAny_bind (wpAny_holding (slots_read he hv hs ho fun h₁ k₁ => ?_))
  have hz : sizeLine = 16777216 := rfl
  refine wpAny_bind (do_new (by show es.size ≤ sizeLine + 1; omega) rfl fun N h₂ k₂ hN l₂ => ?_)
  refine ite_no (by show ¬ ((!es.any fun x => x.key.isStr (Str.ofString "__module__")) = true); rw [hmod]; decide) ?_
  refine wpAny_bind (ite_no (by decide +kernel) (wpAny_pure ?_))
  refine ite_no (by decide +kernel) ?_
  have n₂ : h₂.Ns1 N m := ⟨_, es, _, l₂, rfl, hk, hun, hm⟩
  refine wpAny_bind (wpAny_nsGet (s := st s h₂ t) n₂.ns ?_)
  refine wpAny_bind (wpAny_nsGet (s := st s h₂ t) n₂.ns ?_)
  rw [m1]
  refine wpAny_bind (wpAny_pure ?_)
  refine wpAny_bind (wpAny_pure ?_)
  refine wpAny_bind (wpAny_nsGet (s := st s h₂ t) n₂.ns ?_)
  rw [m2]
  refine wpAny_bind (do_alloc rfl fun C h₃ k₃ hC c₃ => ?_)
  have n₃ := n₂.at (h' := h₃) fun o e => k₃ _ o e
  have hNC : N ≠ C := ne_of_none l₂ hC
  refine ite_yes (by decide) ?_
  refine wpAny_bind (do_slot c₃ (by omega) rfl fun h₄ c₄ b₄ => ?_)
  refine wpAny_bind (do_slot c₄ (by omega) rfl fun h₅ c₅ b₅ => ?_)
  refine wpAny_bind (do_slot c₅ (by omega) rfl fun h₆ c₆ b₆ => ?_)
  have n₆ := ((n₃.sameBut b₄ hNC).sameBut b₅ hNC).sameBut b₆ hNC
  refine wpAny_bind (wpAny_nsDel1 (s := st s h₆ t) n₆ fun h₇ n₇ b₇ => ?_)
  have f7 : ∀ x, x ≠ Str.ofString "__qualname__" → (fun x => if x = Str.ofString "__qualname__" then none else m x) x = m x := fun x hx => if_neg hx
  have f7q : (fun x => if x = Str.ofString "__qualname__" then none else m x) (Str.ofString "__qualname__") = none := if_pos rfl
  generalize (fun x => if x = Str.ofString "__qualname__" then none else m x) = m₇ at n₇ f7 f7q
  have c₇ := (b₇.2 C (Ne.symm hNC)).trans c₆
  refine wpAny_bind (wpAny_nsGet (s := st s h₇ t) n₇.ns ?_)
  rw [f7 _ (by decide), m3]
  refine wpAny_bind (for_cons (wpAny_bind (wpAny_nsGet (s := st s h₇ t) n₇.ns ?_)))
  rw [f7 _ (by decide), m4]
  refine wpAny_pure (for_cons (wpAny_bind (wpAny_nsGet (s := st s h₇ t) n₇.ns ?_)))
  rw [f7 _ (by decide), m5]
  refine wpAny_pure (for_nil ?_)
  refine wpAny_bind (wpAny_nsGet (s := st s h₇ t) n₇.ns ?_)
  rw [f7 _ (by decide), m6]
  refine wpAny_bind (wpAny_nsGet (s := st s h₇ t) n₇.ns ?_)
  rw [f7 _ (by decide), m7]
  refine wpAny_bind (wpAny_of_eq mh_ty ?_)
  refine wpAny_bind (m := Builtin.linearize [Value.type "object"] mroOf) (wpAny_of_eq ln_obj (wpAny_bind (wpAny_pure ?_)))
  refine wpAny_bind (m := List.anyM _ (List.filter (fun x => x != Value.ref C) (Value.ref C :: [Value.type "object"]))) ?_
  rw [show List.filter (fun x => x != Value.ref C) (Value.ref C :: [Value.type "object"]) = [Value.type "object"] by simp]
  refine wpAny_of_eq (a := false) (by kernel_rfl) ?_

  refine wpAny_bind (do_ucls c₇ rfl (pl_cls (Nat.zero_le _) (Nat.zero_le _)) fun h₈ c₈ b₈ => ?_)

  refine wpAny_bind (wpAny_of_eq mb_obj ?_)
  refine wpAny_bind (do_slot c₈ (by omega) rfl fun h₉ c₉ b₉ => ?_)
  have n₉ := (n₇.sameBut b₈ hNC).sameBut b₉ hNC
  refine wpAny_bind (refresh c₉ (by simp) rfl rfl rfl n₉.ns (by rw [f7 _ (by decide), m3]) ?_)
  have f7n : ∀ x, m₇ x ≠ none → x ∈ names := fun x hx => hnm x (fun e => hx (by
    by_cases hq : x = Str.ofString "__qualname__"
    · rw [hq, f7q]
    · rw [f7 x hq, e]))
  refine wpAny_bind (install_K rfl c₉ rfl (Nat.zero_le _) n₉ hNC (by rw [f7 _ (by decide), m0]) names f7n (by omega) fun p h₁₀ tk₁₀ tkp hp p₁₀ n₁₀ c₁₀ b₁₀ => ?_)
  refine wpAny_bind (wpAny_of_eq gw_obj ?_)
  refine wpAny_bind (do_slot c₁₀ (by omega) rfl fun h₁₁ c₁₁ b₁₁ => ?_)
  refine ite_no nf ?_
  refine ite_no nf ?_
  have n₁₁ := n₁₀.sameBut b₁₁ hNC
  have f11 : ∀ x, x ≠ Str.ofString "obj" → x ≠ Str.ofString "__qualname__" → (fun x => if x = Str.ofString "obj" then some (Value.ref p) else m₇ x) x = m x := fun x h1 h2 => (if_neg h1).trans (f7 x h2)
  have f11o : (fun x => if x = Str.ofString "obj" then some (Value.ref p) else m₇ x) (Str.ofString "obj") = some (.ref p) := if_pos rfl
  have f11n : ∀ x, (fun x => if x = Str.ofString "obj" then some (Value.ref p) else m₇ x) x ≠ none → x = Str.ofString "obj" ∨ x ∈ names := fun x hx => by
    by_cases hq : x = Str.ofString "obj"
    · exact .inl hq
    · exact .inr (f7n x (fun e => hx ((if_neg hq).trans e)))
  have f11q : (fun x => if x = Str.ofString "obj" then some (Value.ref p) else m₇ x) (Str.ofString "__qualname__") = none := (if_neg (by decide)).trans f7q
  generalize (fun x => if x = Str.ofString "obj" then some (Value.ref p) else m₇ x) = m₁₁ at n₁₁ f11 f11o f11n f11q
  refine wpAny_bind (wpAny_nsGet (s := st s h₁₁ tk₁₀) n₁₁.ns ?_)
  rw [f11 _ (by decide) (by decide), m2]
  refine ite_yes rfl ?_
  refine wpAny_bind (wpAny_nsSet1 (s := st s h₁₁ tk₁₀) n₁₁ fun h₁₂ n₁₂ b₁₂ => ?_)
  have f12 : ∀ x, x ≠ Str.ofString "__doc__" → x ≠ Str.ofString "obj" → x ≠ Str.ofString "__qualname__" → (fun x => if x = Str.ofString "__doc__" then some Value.none else m₁₁ x) x = m x := fun x h0 h1 h2 => (if_neg h0).trans (f11 x h1 h2)
  have f12o : (fun x => if x = Str.ofString "__doc__" then some Value.none else m₁₁ x) (Str.ofString "obj") = some (.ref p) := (if_neg (by decide)).trans f11o
  have f12v : ∀ x v, (fun x => if x = Str.ofString "__doc__" then some Value.none else m₁₁ x) x = some v → v = .none ∨ v = .ref p ∨ m x = some v := fun x v hx => by
    by_cases h0 : x = Str.ofString "__doc__"
    · exact .inl (Option.some.inj (((if_pos h0).symm.trans hx))).symm
    · have hx := (if_neg h0).symm.trans hx
      by_cases h1 : x = Str.ofString "obj"
      · rw [h1, f11o] at hx; exact .inr (.inl (Option.some.inj hx).symm)
      · by_cases h2 : x = Str.ofString "__qualname__"
        · rw [h2, f11q] at hx; cases hx
        · exact .inr (.inr (by rw [← f11 x h1 h2]; exact hx))
  generalize (fun x => if x = Str.ofString "__doc__" then some Value.none else m₁₁ x) = m₁₂ at n₁₂ f12 f12o f12v
  refine wpAny_bind (wpAny_nsGet (s := st s h₁₂ _) n₁₂.ns ?_)
  rw [f12 _ (by decide) (by decide) (by decide), m8]
  refine ite_yes rfl ?_
  refine wpAny_bind (wpAny_nsGet (s := st s h₁₂ _) n₁₂.ns ?_)
  rw [f12 _ (by decide) (by decide) (by decide), m9]
  refine ite_no Bool.false_ne_true ?_
  refine wpAny_bind (for_cons (a := Value.type "object") (l := []) (wpAny_bind (wpAny_of_eq (a := ()) (by kernel_rfl) (wpAny_pure (for_nil ?_)))))
  refine wpAny_bind (wpAny_tryCatch (wpAny_holding ?_))
  obtain ⟨oN, eN, ep, ho₁₂, hd₁₂, hk₁₂, hu₁₂, hm₁₂⟩ := id n₁₂
  refine wpAny_bind (wpAny_dictEntries (s := st s h₁₂ _) ho₁₂ hd₁₂ ?_)
  refine wpAny_bind (for_sameA eN (fun e he Q' q' => ?_) ?_)
  · obtain ⟨n, tn, hkn⟩ := hk₁₂ e he
    rw [hkn]
    exact wpAny_bind (wpAny_pure (ite_no Bool.false_ne_true (wpAny_pure q')))
  refine ite_no nf ?_
  refine wpAny_bind (wpAny_dictEntries (s := st s h₁₂ _) ho₁₂ hd₁₂ ?_)
  have kb3 : KpB [C, N] h₃ h₁₂ := fun b o hb e => by
    simp only [List.mem_cons, List.not_mem_nil, or_false, not_or] at hb
    refine (b₁₂.2 b hb.2).trans ((b₁₁.2 b hb.1).trans (b₁₀ b o (by simp [hb.1, hb.2]) ((b₉.2 b hb.1).trans ((b₈.2 b hb.1).trans ((b₇.2 b hb.2).trans ((b₆.2 b hb.1).trans ((b₅.2 b hb.1).trans ((b₄.2 b hb.1).trans e))))))))
  have hN0 : h.get? N = none := none_of_kp k₁ hN
  have hC0 : h.get? C = none := none_of_kp (k₁.trans k₂) hC
  have kS : Kp h h₁₂ := KpB.kp ((k₁.trans k₂).trans k₃) kb3 (by simp only [List.mem_cons, List.not_mem_nil, or_false, forall_eq_or_imp, forall_eq]; exact ⟨hC0, hN0⟩)
  have p₁₂ : h₁₂.get? p = some (descr C tkp) := by
    have hpC : p ≠ C := (ne_of_none c₉ hp).symm
    have hpN : p ≠ N := (ns_ne n₉.ns hp).symm
    exact (b₁₂.2 p hpN).trans ((b₁₁.2 p hpC).trans p₁₀)
  refine wpAny_bind (for_sameA eN (fun e he Q' q' => ?_) ?_)
  · obtain ⟨n, tn, hkn⟩ := hk₁₂ e he
    have hv := hm₁₂ n
    rw [nsFind_uniq hu₁₂ he hkn] at hv
    have hsn : NoSN (model prog w) h₁₂ e.val := by
      rcases f12v n e.val hv.symm with hv | hv | hv
      · rw [hv]; exact sn_none
      · rw [hv]; exact sn_type p₁₂ rfl sn_md
      · have := hSN n e.val hv
        exact ⟨this.1, this.2.keeps kS⟩
    rw [hkn]
    refine ite_no (by rw [hsn.1]; decide) (wpAny_bind (hsn.2.here (s := st s h₁₂ _) ?_))
    exact wpAny_pure q'
  have c₁₂ := (b₁₂.2 C (Ne.symm hNC)).trans c₁₁
  refine wpAny_bind (super_call (s := s) c₁₂ fun sup h₁₃ tk₁₃ k₁₃ hsup s₁₃ => ?_)
  have hst₁₃ := k₁₃ _ _ (kS _ _ hst)
  refine wpAny_bind (wpAny_holding (super_attr (s := s) (h := h₁₃) s₁₃ (k₁₃ _ _ c₁₂) hst₁₃ fun f h₁₄ tk₁₄ k₁₄ hf₁₄ => ?_))
  refine wpAny_bind (is_call (s := s) (k₁₄ _ _ (k₁₃ _ _ c₁₂)) hf₁₄ fun v tk₁₅ => wpAny_pure (wpAny_pure ?_))
  have k14 : Kp h₁₂ h₁₄ := Kp.trans k₁₃ k₁₄
  have kb9 : KpB [C, N] h₃ h₉ := fun b o hb e => by
    simp only [List.mem_cons, List.not_mem_nil, or_false, not_or] at hb
    exact (b₉.2 b hb.1).trans ((b₈.2 b hb.1).trans ((b₇.2 b hb.2).trans ((b₆.2 b hb.1).trans ((b₅.2 b hb.1).trans ((b₄.2 b hb.1).trans e)))))
  have kS9 : Kp h h₉ := KpB.kp ((k₁.trans k₂).trans k₃) kb9 (by simp only [List.mem_cons, List.not_mem_nil, or_false, forall_eq_or_imp, forall_eq]; exact ⟨hC0, hN0⟩)
  refine q C N p h₁₄ tk₁₅ tkp m₁₂ _ _ (kS.trans k14) hC0 hN0 (none_of_kp kS9 hp) (k14 _ _ c₁₂) ?_ rfl rfl rfl rfl rfl ?_ (n₁₂.at fun o e => k14 _ o e) (fun x hx => ?_) f12o (k14 _ _ p₁₂)
  · kernel_rfl
  · show (es.any (fun x => x.key.isStr (Str.ofString "__del__")) || false) = false
    rw [hdel]; rfl
  · simp only [List.mem_cons, List.not_mem_nil, or_false, not_or] at hx
    exact f12 x hx.1 hx.2.1 hx.2.2
end Mine
end
section
open PySem PySem.W PySem.W.X PyProof.Rows PySem.SeqAt
set_option maxRecDepth 100000
set_option maxHeartbeats 4000000
namespace Mine
theorem entry_tc : entryFor table "type.__call__" = some Builtin.«type.__call__» := entryFor_of_tree (by kernel_rfl)
theorem mro_ty : mroOf (.type "type") = pure [.type "type", .type "object"] := by kernel_rfl
theorem made_ty : Bind.madeBy (.type "type") = pure (some "type.__new__") := by kernel_rfl
theorem chk_ty (a b c : Value) : checkTypeCall "type" ⟨[a, b, c], []⟩ = pure () := by kernel_rfl
theorem chk_new (b c d : Value) : checkBuiltinCall "type.__new__" ⟨[.type "type", b, c, d], []⟩ = pure () := by kernel_rfl
theorem cr_ty : ((Manifest.find? "type").bind (·.mro.findSome? fun t => (Manifest.find? t).bind fun b => if b.noNew then some true else if b.attrs.any (·.1 == "__new__") then some false else none)).getD false = false := by kernel_rfl
theorem sl_ti : Slot "type" (Str.ofString "__init__") "type.__init__" :=
  Slot.of (T := "type") (name := "__init__") (owner := "type") (n := "__init__") (by rw [typeLookup_type, builtinLookup_eq_fast]; kernel_rfl) (by decide +kernel) (by decide +kernel) (by decide +kernel)
    (.inl (by decide +kernel)) (by rw [isSubtype_type]; kernel_rfl)
theorem entry_ti : entryFor table "type.__init__" = some Builtin.«type.__init__» := entryFor_of_tree (by kernel_rfl)
theorem args_ti (a b c d : Value) : argsOk "type.__init__" ⟨[a, b, c, d], []⟩ := by unfold argsOk; kernel_rfl
theorem type_call {prog : Program} {w : World} {A : Around} {R : Result → Shared → Prop} {s : Shared} {h : Heap} {t : Nat} (bT ns n1 n2 : Nat) (t1 : Tok) (es : Array DictEntry)
  (hb : h.get? bT = some ⟨.type "tuple", none, .seq #[.type "object"] n1, #[]⟩)
  (hn : h.get? ns = some ⟨.type "dict", none, .dict es n2, #[]⟩) (hns : (ns == sysModules) = false) (m : Str → Option Value) (hk : StrKeys es) (hun : UniqKeys es) (hm : ∀ name, nsFind es name = m name)
  (e0 : DictEntry) (sl n3 : Nat) (k0 : Tok) (he : es.find? (fun e => e.key.isStr (Str.ofString "__slots__")) = some e0) (hv : e0.val = .ref sl) (hs : h.get? sl = some ⟨.type "list", none, .seq #[.str (Str.ofString "obj") k0] n3, #[]⟩)
  (ho : es.any (fun e => e.key.isStr (Str.ofString "obj")) = false) (hmod : es.any (fun e => e.key.isStr (Str.ofString "__module__")) = true) (hdel : es.any (fun e => e.key.isStr (Str.ofString "__del__")) = false) (hsz : es.size ≤ 1000)
  (tq : Tok) (m1 : m (Str.ofString "__qualname__") = some (.str (Str.ofString "cmp_to_key.<locals>.K") tq)) (m2 : m (Str.ofString "__doc__") = none) (m3 : m (Str.ofString "__new__") = none) (m4 : m (Str.ofString "__init_subclass__") = none) (m5 : m (Str.ofString "__class_getitem__") = none)
  (names : List Str) (hnm : ∀ x, m x ≠ none → x ∈ names) (hnl : names.length ≤ 50) (m0 : m (Str.ofString "obj") = none) (hSN : ∀ x v, m x = some v → NoSN (model prog w) h v) (hst : h.get? 2 = some { cls := .none, dict := none, data := .dict #[], slots := #[] }) (v8 v9 : Value) (m8 : m (Str.ofString "__eq__") = some v8) (m9 : m (Str.ofString "__hash__") = some v9)
  (m6 : m (Str.ofString "__classcell__") = none) (m7 : m (Str.ofString "__classdictcell__") = none)
  (q : ∀ (C N p : Addr) (h' : Heap) (tk : Nat) (tkp : Tok) (m' : Str → Option Value) (cd : ClassData) (sl : Array (Option Value)), Kp h h' → h.get? C = none → h.get? N = none → h.get? p = none → h'.get? C = some ⟨.type "type", none, .cls cd, sl⟩ → (sl[4]?).join = some (.builtin "object.__new__") →
    cd.mro = [.ref C, .type "object"] → cd.ns = N → cd.slotNames = [Str.ofString "obj"] → cd.hasDict = false → cd.abstract = false → cd.hasDel = false → h'.Ns1 N m' → (∀ x, x ∉ [Str.ofString "__doc__", Str.ofString "obj", Str.ofString "__qualname__"] → m' x = m x) → m' (Str.ofString "obj") = some (.ref p) → h'.get? p = some (descr C tkp) → R (.ok (.ret (.ref C))) (st s h' tk)) :
  codeAny (model prog w) A (.call (.type "type") ⟨[.str (Str.ofString "K") t1, .ref bT, .ref ns], []⟩) R (st s h t) := by
  refine codeAny_of_tree ?_
  refine wpAny_pure (a := Fin.again (.builtin "type.__call__" ⟨[.type "type", .str (Str.ofString "K") t1, .ref bT, .ref ns], []⟩)) (And.intro (Code.quiet_builtin _ (by decide +kernel)) ?_)
  refine codeAny_builtin entry_tc ?_
  generalize A.under _ = B
  unfold Builtin.«type.__call__»
  refine wpAny_bind (wpAny_of_eq (chk_ty _ _ _) (wpAny_bind (wpAny_of_eq mro_ty ?_)))
  refine ite_no (by decide) (wpAny_bind (wpAny_of_eq made_ty (wpAny_bind (wpAny_pure ?_))))
  refine wpAny_bind (wpAny_holding (wpAny_call (codeAny_of_tree (wpAny_bind (wpAny_of_eq (chk_new _ _ _) (wpAny_pure ⟨Code.quiet_builtin _ (by decide +kernel), ?_⟩))))))
  refine type_new bT ns n1 n2 t1 es hb hn hns m hk hun hm e0 sl n3 k0 he hv hs ho hmod hdel hsz tq m1 m2 m3 m4 m5 names hnm hnl m0 hSN hst v8 v9 m8 m9 m6 m7 fun C N p h' tk tkp m' cd sl' k hC hN hp c cs c1 c2 c3 c4 c5 c6 n1' f fo po => ?_
  have hT : (st s h' tk).TypeIs (.ref C) "type" := ⟨_, c, rfl⟩
  refine wpAny_bind (wpAny_isInstance hT st_ty ?_)
  refine ite_no nt ?_
  refine wpAny_bind (wpAny_holding (wpAny_callSpecial?_slot (name := Str.ofString "__init__") hT sl_ti (wpAny_call_entry sl_ti hT entry_ti ?_ (args_ti _ _ _ _))))
  refine wpAny_pure ⟨.none, rfl, ?_⟩
  refine ite_no (by decide) (wpAny_pure ?_)
  exact q C N p h' tk tkp m' cd sl' k hC hN hp c cs c1 c2 c3 c4 c5 c6 n1' f fo po
end Mine
end
section
open PySem PySem.W PySem.W.X PyProof.Rows PySem.SeqAt
set_option maxRecDepth 100000
set_option maxHeartbeats 4000000
namespace Mine
theorem lk_tg : typeLookup (.type "type") (Str.ofString "__getattribute__") = pure (some (.builtin "type.__getattribute__")) := by rw [typeLookup_type, builtinLookup_eq_fast]; kernel_rfl
theorem bd_tg : bindSpecial (.builtin "type.__getattribute__") (.type "type") = pure (.builtin "type.__getattribute__", [.type "type"]) := by kernel_rfl
section
local macro_rules | `(tactic| x_close) => `(tactic| (rename (∀ (r : Addr) (h' : Heap) (tk : Nat), _) => q'; rename Mem _ _ _ _ => D; refine q' _ _ _ (fun b o e => D.keep b o e (by cases hasCls o <;> rfl)) (D.nw _ (.head _)).2 (D.nw _ (.head _)).1))
abbrev prepObj : Obj := { cls := .type "builtin_function_or_method", dict := none, data := .fields #[.builtin "type.__prepare__", .type "type"], slots := #[] }
theorem prep_get {prog : Program} {w : World} {A : Around} {E : Value → Shared → Prop} {s : Shared} {h : Heap} {t : Nat} {tn : Tok} {Q : Value → Shared → Prop}
    (hst : h.get? 2 = some { cls := .none, dict := none, data := .dict #[], slots := #[] })
    (q : ∀ r h' tk, (∀ b o, h.get? b = some o → h'.get? b = some o) → h.get? r = none → h'.get? r = some prepObj → Q (.ref r) (⟨h', s.gens, s.drawn, tk, s.os⟩)) : wpAny (model prog w) A (call (.builtin "type.__getattribute__") [.type "type", .str (Str.ofString "__prepare__") tn]) Q E (⟨h, s.gens, s.drawn, t, s.os⟩) := by
  x_run
theorem prep_call {prog : Program} {w : World} {A : Around} {E : Value → Shared → Prop} {s : Shared} {h : Heap} {t : Nat} {f bT : Addr} {tn : Tok} {Q : Value → Shared → Prop}
    (hf : h.get? f = some { cls := .type "builtin_function_or_method", dict := none, data := .fields #[.builtin "type.__prepare__", .type "type"], slots := #[] })
    (q : ∀ r h' tk, (∀ b o, h.get? b = some o → h'.get? b = some o) → h.get? r = none → h'.get? r = some { cls := .type "dict", dict := none, data := .dict #[], slots := #[] } → Q (.ref r) (⟨h', s.gens, s.drawn, tk, s.os⟩)) : wpAny (model prog w) A (call (.ref f) [.str (Str.ofString "K") tn, .ref bT]) Q E (⟨h, s.gens, s.drawn, t, s.os⟩) := by
  x_run
end
end Mine
end
section
open PySem PySem.W PySem.W.X PyProof.Rows PySem.SeqAt
set_option maxRecDepth 100000
set_option maxHeartbeats 4000000
namespace Mine
abbrev code34 : Obj := { cls := .type "code", dict := none, data := .fields #[.str (Str.ofString "cmp_to_key") 212, .str (Str.ofString "cmp_to_key") 213, .str (Str.ofString "/claim/cut.py") 214, .int 19 0, .int 1 0, .int 0 0, .int 0 0, .int 3 0, .ref 29, .bool true, .int 181 0, .ref 30, .none, .ref 31, .ref 32, .ref 33, .int 218 0, .int 19 0, .str (Str.ofString "/claim/cut.py") 219], slots := #[] }
theorem do_asis {M : Model} {A : Around} {E : Value → Shared → Prop} {s : Shared} {h : Heap} {t : Nat} {T : String} {data : Data} {dict : Option Addr} {Q : Value → Shared → Prop} (hf : Obj.isFreed { cls := .type T, dict, data } = false)
    (q : ∀ r h', Kp h h' → h.get? r = none → h'.get? r = some { cls := .type T, dict, data } → Q (.ref r) (st s h' t)) : wpAny M A (newObjAsIs (.type T) data dict) Q E (st s h t) :=
  wpAny_newObjAsIs_type (s := st s h t) (q _ _ (Kp.push _ _) none_of_size (Heap.get?_push_size _ hf))
theorem class_code {prog : Program} {w : World} {A : Around} {E : Value → Shared → Prop} {s : Shared} {h : Heap} {t : Nat} {env : Env} {scope : Scope} {qual : Str} {Q : Value → Shared → Prop} (hcd : env.code = .ref 34) (hfn : (env.scope.kind == .function) = true)
    (hfree : scope.freeNames = [Str.ofString "mycmp"]) (hc : h.get? 34 = some code34) (hP : h.get? 30 = some { cls := .none, dict := none, data := .fields #[], slots := #[] })
    (q : ∀ (c' P' T : Addr) (h' : Heap) (tk : Nat) (ta tb tc td tu : Nat), KpB [30] h h' → h'.get? 30 = some { cls := .none, dict := none, data := .fields #[.int 21 0, .int 4 0, .ref c'], slots := #[] } →
      h'.get? c' = some { cls := .type "code", dict := none, data := .fields #[.str (Str.ofString "K") ta, .str qual tb, .str (Str.ofString "/claim/cut.py") tc, .int 21 0, .int 0 0, .int 0 0, .int 0 0, .int 0 0, .ref T, .bool true, .int 181 0, .ref P', .none, .none, .none, .none, .int (tu : Int) 0, .int 21 0, .str (Str.ofString "/claim/cut.py") td], slots := #[] } →
      h'.get? P' = some { cls := .none, dict := none, data := .fields #[], slots := #[] } → h.get? c' = none → h.get? P' = none → Q (.ref c') (st s h' tk)) :
    wpAny (model prog w) A (classCode env { line := 21, col := 4, endLine := 42, endCol := 23 } 21 (Str.ofString "K") qual scope) Q E (st s h t) := by
  unfold classCode codeAt
  rw [hcd]
  refine ite_no Bool.false_ne_true ?_
  refine wpAny_bind (wpAny_bind (wpAny_load (s := st s h t) hc (wpAny_pure ?_)))
  refine wpAny_bind (wpAny_bind (wpAny_load (s := st s h t) hP (wpAny_pure ?_)))
  refine wpAny_bind (m := newCode _ _ _ _ _ _ _ _ _ _) ?_
  unfold newCode
  refine wpAny_bind (wpAny_mkText (s := st s h t) (wpAny_bind (wpAny_mkText (s := st s h (t + 1)) (wpAny_bind (wpAny_mkText (s := st s h (t + 1 + 1)) (wpAny_bind (wpAny_mkStrs (s := st s h (t + 1 + 1 + 1)) fun fs => ?_)))))))
  refine wpAny_bind (do_asis (s := s) (h := h) rfl fun T h₁ k₁ hT l₁ => ?_)
  refine wpAny_bind (do_alloc rfl fun P' h₂ k₂ hP' p₂ => ?_)
  refine wpAny_bind (wpAny_pure (wpAny_bind (wpAny_pure (wpAny_bind (wpAny_pure (wpAny_bind (wpAny_fresh ?_)))))))
  refine wpAny_bind (wpAny_mkText ?_)
  refine do_new (s := s) (h := h₂) (by show 19 ≤ sizeLine + 2; decide) rfl fun c' h₃ k₃ hc' l₃ => ?_
  have hP₃ := k₃ _ _ (k₂ _ _ (k₁ _ _ hP))
  refine wpAny_bind (wpAny_bind (wpAny_load (s := st s h₃ _) hP₃ (wpAny_update (s := st s h₃ _) hP₃ ?_)))
  have e30 := Heap.get?_update_self (Obj.mapFields fun vs => if (codeAmong { line := 21, col := 4, endLine := 42, endCol := 23 } vs.toList).isSome = true then vs else vs ++ #[rawInt 21, rawInt 4, Value.ref c']) hP₃ rfl
  have b30 := Heap.SameBut.update h₃ 30 (Obj.mapFields fun vs => if (codeAmong { line := 21, col := 4, endLine := 42, endCol := 23 } vs.toList).isSome = true then vs else vs ++ #[rawInt 21, rawInt 4, Value.ref c'])
  have hc30 : c' ≠ 30 := (ne_of_none (k₂ _ _ (k₁ _ _ hP)) hc').symm
  have hP30 : P' ≠ 30 := (ne_of_none (k₁ _ _ hP) hP').symm
  refine wpAny_bind (wpAny_bind (wpAny_load (s := st s _ _) e30 (wpAny_pure ?_)))
  refine wpAny_pure (q c' P' T _ _ _ _ _ _ _ (fun b o hb e => (b30.2 b (by simpa using hb)).trans (k₃ _ _ (k₂ _ _ (k₁ _ _ e)))) e30 ((b30.2 c' hc30).trans l₃) ((b30.2 P' hP30).trans (k₃ _ _ p₂)) (none_of_kp (k₁.trans k₂) hc') (none_of_kp k₁ hP'))
end Mine
end
section
open PySem PySem.W PySem.W.X PyProof.Rows PySem.SeqAt
set_option maxRecDepth 100000
set_option maxHeartbeats 4000000
namespace Mine
/-- a plain dict that serves as names -/
def NsD (h : Heap) (a : Addr) (m : Str → Option Value) : Prop := ∃ es ep, h.get? a = some ⟨.type "dict", none, .dict es ep, #[]⟩ ∧ StrKeys es ∧ UniqKeys es ∧ ∀ name, nsFind es name = m name
theorem NsD.ns1 {h : Heap} {a : Addr} {m : Str → Option Value} (x : NsD h a m) : h.Ns1 a m := let ⟨es, ep, e, r⟩ := x; ⟨_, es, ep, e, rfl, r⟩
theorem NsD.at {h h' : Heap} {a : Addr} {m : Str → Option Value} (x : NsD h a m) (k : ∀ o, h.get? a = some o → h'.get? a = some o) : NsD h' a m := let ⟨es, ep, e, r⟩ := x; ⟨es, ep, k _ e, r⟩
theorem NsD.of1 {h : Heap} {a : Addr} {m : Str → Option Value} {es : Array DictEntry} {ep : Nat} (x : h.Ns1 a m) (e : h.get? a = some ⟨.type "dict", none, .dict es ep, #[]⟩) : NsD h a m := by
  obtain ⟨o, es', ep', e', d, r⟩ := x
  rw [e] at e'; cases e'
  cases d
  exact ⟨_, _, e, r⟩
theorem put_shape {name : Str} {hs : Int} {tk : Tok} {v : Value} {es : Array DictEntry} {ep : Nat} {m : Str → Option Value} (hk : StrKeys es) (hu : UniqKeys es) (hm : ∀ x, nsFind es x = m x) :
    ∃ es' ep', Obj.putName name hs (.str name tk) v ⟨.type "dict", none, .dict es ep, #[]⟩ = ⟨.type "dict", none, .dict es' ep', #[]⟩ ∧ StrKeys es' ∧ UniqKeys es' ∧ ∀ x, nsFind es' x = if x = name then some v else m x := by
  simp only [Obj.putName_eq, Obj.putNameByArray]
  cases hi : es.findIdx? (·.key.isStr name) with
  | some i =>
    refine ⟨_, _, rfl, hk.modify _ _, hu.modify _ _, fun x => ?_⟩
    rw [← hm x]
    exact findBy_modify (fun n v => v.isStr n) Value.isStr_inj es name x v i hi
  | none =>
    refine ⟨_, _, rfl, hk.push _ _ _ _, hu.push _ _ _ _ hi, fun x => ?_⟩
    rw [← hm x]
    refine findBy_push (fun n v => v.isStr n) es name x _ _ v (fun y => ?_) hi
    show (name == y) = decide (y = name)
    by_cases e : y = name
    · rw [e]; simp
    · rw [decide_eq_false e]; exact beq_eq_false_iff_ne.mpr (Ne.symm e)
section
variable {prog : Program} {w : World} {M : Model} {A : Around} {E : Value → Shared → Prop} {R : Result → Shared → Prop} {s : Shared} {h : Heap} {t : Nat} {env : Env}
theorem set_D {a : Addr} {name : Str} {v : Value} {m : Str → Option Value} {Q : Unit → Shared → Prop} (n : NsD h a m)
    (q : ∀ h', NsD h' a (fun x => if x = name then some v else m x) → Heap.SameBut a h h' → Q () (st s h' (t + 1))) : wpAny M A (nsSet a name v) Q E (st s h t) := by
  obtain ⟨es, ep, ho, hk, hu, hm⟩ := n
  refine wpAny_bind (wpAny_bind (wpAny_askSetting (wpAny_pure (wpAny_bind (wpAny_mkText (s := st s h t) (wpAny_bind (wpAny_loadPart (s := st s h (t + 1)) ho ?_)))))))
  have hany : es.any (·.refKey) = false := by
    rw [Array.any_eq_false']; intro e he; obtain ⟨n, t, h⟩ := hk e he; simp [DictEntry.refKey, h]
  refine ite_no ?_ (wpAny_updatePart (s := st s h (t + 1)) ho ?_)
  · rw [aRefKeyMayBeTheName_eq, aRefKeyMayBeTheNameByArray, hany]; simp
  · show Q () (st s (h.update a (Obj.putName name (if name.cps.isEmpty = true then (0 : Int) else reduceHash (M.w.params.strHash name.cps)) (.str name t) v)) (t + 1))
    generalize (if name.cps.isEmpty = true then (0 : Int) else reduceHash (M.w.params.strHash name.cps)) = hs
    obtain ⟨es', ep', e, hk', hu', hm'⟩ := put_shape (name := name) (hs := hs) (tk := t) (v := v) (ep := ep) hk hu hm
    refine q _ ⟨es', ep', ?_, hk', hu', hm'⟩ (Heap.SameBut.update ..)
    rw [← e]
    refine Heap.get?_update_self _ ho ?_
    show (Obj.putName name hs (.str name t) v ⟨.type "dict", none, .dict es ep, #[]⟩).isFreed = false
    rw [e]; rfl
/-- a store in a class's body -/
theorem cs_store {ns : Addr} {x : Str} {v : Value} {m : Str → Option Value} {Q : Unit → Shared → Prop} (n : NsD h ns m)
    (q : ∀ h', NsD h' ns (fun y => if y = x then some v else m y) → Heap.SameBut ns h h' → Q () (st s h' (t + 1)))
    (hL : env.locals = ns := by rfl) (hS : storeName env x v = localSet env x v := by rfl) : wpAny M A (storeName env x v) Q E (st s h t) := by
  rw [hS]
  unfold localSet
  rw [hL]
  obtain ⟨es, ep, ho, _⟩ := id n
  exact wpAny_bind (wpAny_load (s := st s h t) ho (ite_yes rfl (set_D n q)))
end
structure CP where
  body : List Stmt
  scope : Scope
  statics : List Str
  pos : Pos
def cpOf : Stmt → CP
  | .ClassDef _ _ _ b _ _ sc _ _ st p => ⟨b, sc, st, p⟩
  | _ => ⟨[], default, [], default⟩
/-- the class statement of cmp_to_key -/
def kCls : CP := cpOf ((dpAt 4).body.getD 0 (.Pass default))
/-- its statement i -/
def kDef (i : Nat) : DP := dpOf (kCls.body.getD i (.Pass default))
/-- what a method's function object holds -/
abbrev mdOf (nm q : Str) (d : DP) (cl : List (Str × Addr)) (pm cd ct : Value) : FuncData :=
  { name := nm, qualname := q, params := d.params, body := .stmts d.body, scope := d.scope, globals := mainGlobals, closure := cl, defaults := .none, kwdefaults := .none, doc := .none, pyModule := pm, annotations := none, code := cd, closureTuple := ct, builtins := builtinsNs }
/-- the method stands at f -/
def MethAt (h : Heap) (f : Addr) (nm : Str) (d : DP) (cl : List (Str × Addr)) : Prop :=
  ∃ q pm cd ct, h.get? f = some { cls := .type "function", data := .func (mdOf nm q d cl pm cd ct) } ∧ h.CodeRec cd q
theorem MethAt.mono {h h' : Heap} {f : Addr} {nm : Str} {d : DP} {cl : List (Str × Addr)} (k : Kp h h') : MethAt h f nm d cl → MethAt h' f nm d cl
  | ⟨q, pm, cd, ct, e, c⟩ => ⟨q, pm, cd, ct, k _ _ e, c.keeps k⟩
/-- the same, and it and its code are none of S -/
def MethB (S : List Addr) (h : Heap) (f : Addr) (nm : Str) (d : DP) (cl : List (Str × Addr)) : Prop :=
  ∃ q pm cd ct, h.get? f = some { cls := .type "function", data := .func (mdOf nm q d cl pm (.ref cd) ct) } ∧ h.CodeRec (.ref cd) q ∧ f ∉ S ∧ cd ∉ S
theorem MethB.meth {S : List Addr} {h : Heap} {f : Addr} {nm : Str} {d : DP} {cl : List (Str × Addr)} : MethB S h f nm d cl → MethAt h f nm d cl
  | ⟨q, pm, cd, ct, e, c, _⟩ => ⟨q, pm, _, ct, e, c⟩
theorem MethB.next {S : List Addr} {h h' : Heap} {f : Addr} {nm : Str} {d : DP} {cl : List (Str × Addr)} (k : KpB S h h') : MethB S h f nm d cl → MethB S h' f nm d cl
  | ⟨q, pm, cd, ct, e, c, n1, n2⟩ => by
    refine ⟨q, pm, cd, ct, k _ _ n1 e, ?_, n1, n2⟩
    obtain ⟨cc, oc, vs, tt, c1, c2, c3, c4⟩ := c
    cases c1
    exact ⟨_, oc, vs, tt, rfl, k _ _ n2 c2, c3, c4⟩
section
variable {prog : Program} {w : World} {M : Model} {A : Around} {E : Value → Shared → Prop} {R : Result → Shared → Prop} {s : Shared} {h : Heap} {t : Nat} {env : Env}
theorem make_meth {c Pl : Addr} {ps : Array Value} {nm q : Str} {d : DP} {cl : List (Str × Addr)} {pos : Pos} {fl : Nat} {mg : Str → Option Value} {Q : Value → Shared → Prop} (hd : docOf d.body = none)
    (hc : env.code = .ref c) (hg0 : env.globals = mainGlobals) (hok : h.IsCode c Pl ps) (hnf : codeAmong pos ps.toList = none) (hcl : closureFor d.scope env = pure cl)
    (hg : h.Ns mainGlobals mg) (hgb : mg (Str.ofString "__builtins__") = some (.ref 4)) (hb : h.get? 4 = some ⟨.type "module", some 0, .plain, #[]⟩) (hP4 : Pl ≠ 4) (hPg : Pl ≠ mainGlobals)
    (qq : ∀ f h' tk c', KpB [Pl] h h' → h.get? f = none → (∀ S : List Addr, (∀ b ∈ S, ∃ o, h.get? b = some o) → MethB S h' f nm d cl) → h'.IsCode c Pl (ps ++ #[rawInt pos.line, rawInt pos.col, .ref c']) → Q (.ref f) (st s h' tk)) :
    wpAny M A (makeFunction nm q d.params (.stmts d.body) d.scope env [] [] [] pos fl) Q E (st s h t) := by
  simp only [makeFunction, List.zip_nil_right, List.filterMap_nil, List.isEmpty_nil, if_true, pure_bind, hcl, hd, hg0]
  have main : ∀ (ct : Value) (h₁ : Heap) (t₁ : Nat), Kp h h₁ → wpAny M A (functionCode env pos fl nm q d.params d.scope (.stmts d.body) >>= fun code => builtinsFor mainGlobals env.builtins >>= fun bs => nsGet mainGlobals (Str.ofString "__name__") >>= fun pmo =>
      newObj (.type "function") (.func { name := nm, qualname := q, params := d.params, body := .stmts d.body, scope := d.scope, globals := mainGlobals, closure := cl, defaults := .none, kwdefaults := .none, doc := .none, pyModule := pmo.getD .none, annotations := none, code := code, closureTuple := ct, builtins := bs })) Q E (st s h₁ t₁) := by
    intro ct h₁ t₁ k₁
    refine wpAny_bind (wpAny_functionCode (s := st s h₁ t₁) hc (hok.keeps k₁) hnf fun c' h' tk hx hge hlt hok' hrec => ?_)
    have kb : KpB [Pl] h h' := fun b o hb e => hx b o (by simpa using hb) (k₁ _ _ e)
    have hg' : h'.Ns mainGlobals mg := hg.at' fun o e => kb _ o (by simpa using hPg.symm) e
    refine wpAny_bind (wpAny_builtinsFor (s := st s h' tk) hg' hgb (by decide) (kb _ _ (by simpa using hP4.symm) hb) rfl rfl rfl ?_)
    refine wpAny_bind (wpAny_nsGet (s := st s h' tk) hg' ?_)
    refine do_new (s := s) (h := h') (t := tk) trivial rfl fun f h₂ k₂ hf f₂ => ?_
    have hf0 : h.get? f = none := by
      cases e : h.get? f with
      | none => rfl
      | some o =>
        exfalso
        by_cases hfP : f = Pl
        · obtain ⟨_, _, _, _, _, _, _, _, _, op, _, _, _, _, _, _, _, hop, _⟩ := hok'
          rw [hfP, hop] at hf; cases hf
        · rw [kb f o (by simpa using hfP) e] at hf; cases hf
    have hc0 : h.get? c' = none := none_of_kp k₁ (Heap.get?_none_of_le hge)
    refine qq f h₂ tk c' (kb.trans (KpB.of k₂)) hf0 (fun S hS => ⟨q, _, c', ct, f₂, hrec.keeps k₂, fun hm => ?_, fun hm => ?_⟩) (hok'.keeps k₂)
    · obtain ⟨o, e⟩ := hS _ hm; rw [hf0] at e; cases e
    · obtain ⟨o, e⟩ := hS _ hm; rw [hc0] at e; cases e
  cases cl with
  | nil => exact main _ h t (Kp.refl _)
  | cons p r => exact wpAny_bind (wpAny_newTextTuple (s := st s h t) (main _ _ t (Kp.push _ _)))
/-- a def in a class's body -/
theorem def_class {c Pl ns : Addr} {ps : Array Value} {nm : Str} {d : DP} {cl : List (Str × Addr)} {pos : Pos} {mg m : Str → Option Value} {Q : Flow → Shared → Prop} (hd : docOf d.body = none)
    (hc : env.code = .ref c) (hg0 : env.globals = mainGlobals) (hok : h.IsCode c Pl ps) (hnf : codeAmong pos ps.toList = none) (hcl : closureFor d.scope env = pure cl)
    (hg : h.Ns mainGlobals mg) (hgb : mg (Str.ofString "__builtins__") = some (.ref 4)) (hb : h.get? 4 = some ⟨.type "module", some 0, .plain, #[]⟩) (hP4 : Pl ≠ 4) (hPg : Pl ≠ mainGlobals) (hPn : Pl ≠ ns) (hcn : c ≠ ns) (n : NsD h ns m)
    (qq : ∀ f h' tk c', KpB [Pl, ns] h h' → MethB [Pl, ns] h' f nm d cl → h'.IsCode c Pl (ps ++ #[rawInt pos.line, rawInt pos.col, .ref c']) → NsD h' ns (fun y => if y = nm then some (.ref f) else m y) → Q .next (st s h' tk))
    (hL : env.locals = ns) (hS : ∀ v, storeName env nm v = localSet env nm v)
    (hdef : exec (.FunctionDef nm d.params d.body [] none [] d.scope none nm pos) env = (do
      standAt pos
      let f ← makeFunction nm (qualnameIn env nm nm) d.params (.stmts d.body) d.scope env [] [] [] pos pos.line
      standAt pos
      bindName env nm f
      pure .next)) :
    wpAny M A (exec (.FunctionDef nm d.params d.body [] none [] d.scope none nm pos) env) Q E (st s h t) := by
  rw [hdef]
  refine wpAny_bind (wpAny_standAt (wpAny_bind (make_meth hd hc hg0 hok hnf hcl hg hgb hb hP4 hPg fun f h₁ t₁ c' k₁ hf f₁ ok₁ => ?_)))
  have n₁ : NsD h₁ ns m := n.at fun o e => k₁ _ o (by simpa using hPn.symm) e
  refine wpAny_bind (wpAny_standAt (wpAny_bind (wpAny_bindName (cs_store n₁ (fun h₂ n₂ b₂ => wpAny_pure ?_) hL (hS _)))))
  have m₁ := f₁ [Pl, ns] (fun b hb => by
    rcases List.mem_cons.mp hb with rfl | hb
    · obtain ⟨_, _, _, _, _, _, _, _, _, op, _, _, _, _, _, _, _, hop, _⟩ := hok; exact ⟨op, hop⟩
    · obtain ⟨es, ep, e, _⟩ := n; rw [List.mem_singleton.mp hb]; exact ⟨_, e⟩)
  have k₂ : KpB [Pl, ns] h₁ h₂ := (KpB.same b₂).more (by simp)
  exact qq f h₂ _ c' ((k₁.more (by simp)).trans k₂) (m₁.next k₂) (ok₁.extBut b₂.extBut hcn hPn) n₂
end
end Mine
end
section
open PySem PySem.W PySem.W.X PyProof.Rows PySem.SeqAt
set_option maxRecDepth 100000
set_option maxHeartbeats 4000000
namespace Mine
/-- where the class's body runs -/
abbrev cEnv (L ns c F : Addr) (q : Str) : Env := { scope := kCls.scope, locals := ns, globals := mainGlobals, qual := q, code := .ref c, frame := some F, builtins := builtinsNs, cells := [(Str.ofString "mycmp", L + 1)] }
/-- what the class's names are behind its body -/
abbrev kMap (vm vs f2 f3 f4 f5 f6 f7 : Value) (m : Str → Option Value) : Str → Option Value := fun y =>
  if y = Str.ofString "__hash__" then some Value.none else if y = Str.ofString "__ge__" then some f7 else if y = Str.ofString "__le__" then some f6 else if y = Str.ofString "__eq__" then some f5 else
  if y = Str.ofString "__gt__" then some f4 else if y = Str.ofString "__lt__" then some f3 else if y = Str.ofString "__init__" then some f2 else if y = Str.ofString "__slots__" then some vs else if y = Str.ofString "__module__" then some vm else m y
section
variable {prog : Program} {w : World} {M : Model} {A : Around} {E : Value → Shared → Prop} {R : Result → Shared → Prop} {s : Shared} {h : Heap} {t : Nat} {env : Env}
theorem class_body {L ns c F Pl : Addr} {q : Str} {mg m : Str → Option Value} {Q : Flow → Shared → Prop} 
    (hok : h.IsCode c Pl #[]) (hg : h.Ns mainGlobals mg) (hgb : mg (Str.ofString "__builtins__") = some (.ref 4)) (hb : h.get? 4 = some ⟨.type "module", some 0, .plain, #[]⟩) (hP4 : Pl ≠ 4) (hPg : Pl ≠ mainGlobals) (hPn : Pl ≠ ns) (hcn : c ≠ ns) (hn4 : ns ≠ 4) (hng : ns ≠ mainGlobals)
    (n : NsD h ns m)
    (qq : ∀ sl f2 f3 f4 f5 f6 f7 tm to' h' tk, KpB [Pl, ns] h h' → sl ∉ [Pl, ns] → (∃ n, h'.get? sl = some ⟨.type "list", none, .seq #[.str (Str.ofString "obj") to'] n, #[]⟩) →
      MethB [Pl, ns] h' f2 (Str.ofString "__init__") (kDef 2) [] → MethB [Pl, ns] h' f3 (Str.ofString "__lt__") (kDef 3) [(Str.ofString "mycmp", L + 1)] → MethB [Pl, ns] h' f4 (Str.ofString "__gt__") (kDef 4) [(Str.ofString "mycmp", L + 1)] → MethB [Pl, ns] h' f5 (Str.ofString "__eq__") (kDef 5) [(Str.ofString "mycmp", L + 1)] →
      MethB [Pl, ns] h' f6 (Str.ofString "__le__") (kDef 6) [(Str.ofString "mycmp", L + 1)] → MethB [Pl, ns] h' f7 (Str.ofString "__ge__") (kDef 7) [(Str.ofString "mycmp", L + 1)] →
      NsD h' ns (kMap (.str (Str.ofString "cpy313.functools") tm) (.ref sl) (.ref f2) (.ref f3) (.ref f4) (.ref f5) (.ref f6) (.ref f7) m) → Q .next (st s h' tk)) :
    wpAny M A (execs kCls.body (cEnv L ns c F q)) Q E (st s h t) := by
  refine wpAny_execs_cons (wpAny_Assign_Name (wpAny_Constant_str (s := st s h t) ?_))
  refine cs_store (t := t + 1) n (fun h₁ n₁ b₁ => ?_)
  refine wpAny_execs_cons (wpAny_Assign_Name (List_ (args_cons (wpAny_Constant_str (s := st s h₁ _) (args_nil (ev_newList (s := s) (h := h₁) fun sl h₂ k₂ hsl l₂ => ?_))))))
  refine cs_store (n₁.at fun o e => k₂ _ o e) (fun h₃ n₃ b₃ => ?_)
  have k3 : KpB [Pl, ns] h h₃ := (((KpB.same b₁).more (by simp)).trans (KpB.of k₂)).trans ((KpB.same b₃).more (by simp))
  have nS : ∀ b ∈ [Pl, ns], ∃ o, h₁.get? b = some o := fun b hb => by
    rcases List.mem_cons.mp hb with rfl | hb
    · obtain ⟨_, _, _, _, _, _, _, _, _, op, _, _, _, _, _, _, _, hop, _⟩ := hok; exact ⟨op, (b₁.2 _ hPn).trans hop⟩
    · obtain ⟨es, ep, e, _⟩ := n₁; rw [List.mem_singleton.mp hb]; exact ⟨_, e⟩
  have slS : sl ∉ [Pl, ns] := fun hm => by obtain ⟨o, e⟩ := nS _ hm; rw [hsl] at e; cases e
  have sl₃ : ∃ n, h₃.get? sl = some ⟨.type "list", none, .seq #[.str (Str.ofString "obj") (t + 1 + 1)] n, #[]⟩ := by
    obtain ⟨n, e⟩ := l₂
    exact ⟨n, (b₃.2 sl (fun e => slS (by simp [e]))).trans e⟩
  have ok₃ : h₃.IsCode c Pl #[] := ((hok.extBut b₁.extBut hcn hPn).keeps k₂).extBut b₃.extBut hcn hPn
  have G : ∀ {h' : Heap}, KpB [Pl, ns] h h' → h'.Ns mainGlobals mg := fun k => hg.at' fun o e => k _ o (by simp [hPg.symm, hng.symm]) e
  have B : ∀ {h' : Heap}, KpB [Pl, ns] h h' → h'.get? 4 = some ⟨.type "module", some 0, .plain, #[]⟩ := fun k => k _ _ (by simp [hP4.symm, hn4.symm]) hb
  refine wpAny_execs_cons (def_class (nm := Str.ofString "__init__") (d := kDef 2) (cl := []) rfl rfl rfl ok₃ (by rfl) (by rfl) (G k3) hgb (B k3) hP4 hPg hPn hcn n₃ (fun f2 h₄ t₄ c₄ k₄ m₄ ok₄ n₄ => ?_) rfl (fun _ => by rfl) (by rfl))
  have k4 : KpB [Pl, ns] h h₄ := k3.trans k₄
  refine wpAny_execs_cons (def_class (nm := Str.ofString "__lt__") (d := kDef 3) (cl := [(Str.ofString "mycmp", L + 1)]) rfl rfl rfl ok₄ (by rfl) (by rfl) (G k4) hgb (B k4) hP4 hPg hPn hcn n₄ (fun f3 h₅ t₅ c₅ k₅ m₅ ok₅ n₅ => ?_) rfl (fun _ => by rfl) (by rfl))
  have k5 : KpB [Pl, ns] h h₅ := k4.trans k₅
  refine wpAny_execs_cons (def_class (nm := Str.ofString "__gt__") (d := kDef 4) (cl := [(Str.ofString "mycmp", L + 1)]) rfl rfl rfl ok₅ (by rfl) (by rfl) (G k5) hgb (B k5) hP4 hPg hPn hcn n₅ (fun f4 h₆ t₆ c₆ k₆ m₆ ok₆ n₆ => ?_) rfl (fun _ => by rfl) (by rfl))
  have k6 : KpB [Pl, ns] h h₆ := k5.trans k₆
  refine wpAny_execs_cons (def_class (nm := Str.ofString "__eq__") (d := kDef 5) (cl := [(Str.ofString "mycmp", L + 1)]) rfl rfl rfl ok₆ (by rfl) (by rfl) (G k6) hgb (B k6) hP4 hPg hPn hcn n₆ (fun f5 h₇ t₇ c₇ k₇ m₇ ok₇ n₇ => ?_) rfl (fun _ => by rfl) (by rfl))
  have k7 : KpB [Pl, ns] h h₇ := k6.trans k₇
  refine wpAny_execs_cons (def_class (nm := Str.ofString "__le__") (d := kDef 6) (cl := [(Str.ofString "mycmp", L + 1)]) rfl rfl rfl ok₇ (by rfl) (by rfl) (G k7) hgb (B k7) hP4 hPg hPn hcn n₇ (fun f6 h₈ t₈ c₈ k₈ m₈ ok₈ n₈ => ?_) rfl (fun _ => by rfl) (by rfl))
  have k8 : KpB [Pl, ns] h h₈ := k7.trans k₈
  refine wpAny_execs_cons (def_class (nm := Str.ofString "__ge__") (d := kDef 7) (cl := [(Str.ofString "mycmp", L + 1)]) rfl rfl rfl ok₈ (by rfl) (by rfl) (G k8) hgb (B k8) hP4 hPg hPn hcn n₈ (fun f7 h₉ t₉ c₉ k₉ m₉ ok₉ n₉ => ?_) rfl (fun _ => by rfl) (by rfl))
  have k9 : KpB [Pl, ns] h h₉ := k8.trans k₉
  refine wpAny_execs_cons (wpAny_Assign_Name (wpAny_Constant_none ?_))
  refine cs_store n₉ (fun h₁₀ n₁₀ b₁₀ => wpAny_execs_nil ?_)
  have k₁₀ : KpB [Pl, ns] h₉ h₁₀ := (KpB.same b₁₀).more (by simp)
  have k910 := k₉.trans k₁₀
  have k810 := k₈.trans k910
  have k710 := k₇.trans k810
  have k610 := k₆.trans k710
  have k510 := k₅.trans k610
  have k410 := k₄.trans k510
  obtain ⟨ln, sl₃⟩ := sl₃
  exact qq sl f2 f3 f4 f5 f6 f7 _ _ h₁₀ _ (k9.trans k₁₀) slS ⟨ln, k410 _ _ slS sl₃⟩ (m₄.next k510) (m₅.next k610) (m₆.next k710) (m₇.next k810) (m₈.next k910) (m₉.next k₁₀) n₁₀
end
end Mine
end
section
open PySem PySem.W PySem.W.X PyProof.Rows PySem.SeqAt
set_option maxRecDepth 100000
set_option maxHeartbeats 4000000
namespace Mine
theorem ty_ty : typeOf (.type "type") = pure (.type "type") := by kernel_rfl
theorem sn_str {M : Model} {h : Heap} {x : Str} {t : Tok} : NoSN M h (.str x t) := ⟨fun _ _ => rfl, Looks.of_pure (by kernel_rfl)⟩
theorem sn_int {M : Model} {h : Heap} {x : Int} {t : Tok} : NoSN M h (.int x t) := ⟨fun _ _ => rfl, Looks.of_pure (by kernel_rfl)⟩
theorem sn_list : typeLookup (.type "list") (Str.ofString "__set_name__") = pure none := by rw [typeLookup_type, builtinLookup_eq_fast]; kernel_rfl
theorem sn_tuple : typeLookup (.type "tuple") (Str.ofString "__set_name__") = pure none := by rw [typeLookup_type, builtinLookup_eq_fast]; kernel_rfl
theorem sn_func : typeLookup (.type "function") (Str.ofString "__set_name__") = pure none := by rw [typeLookup_type, builtinLookup_eq_fast]; kernel_rfl
theorem if_some {x n : Str} {a v : Value} {r : Option Value} {P : Value → Prop} (ha : P a) (hr : r = some v → P v) : (if x = n then some a else r) = some v → P v := by
  split
  · intro e; cases e; exact ha
  · exact hr
theorem if_mem {x n : Str} {a : Value} {r : Option Value} {names : List Str} (hn : n ∈ names) (hr : r ≠ none → x ∈ names) : (if x = n then some a else r) ≠ none → x ∈ names := by
  split
  · rename_i e; intro _; rw [e]; exact hn
  · exact hr
theorem find_of_ns {es : Array DictEntry} {x : Str} {v : Value} (e : nsFind es x = some v) : ∃ e0, es.find? (fun e => e.key.isStr x) = some e0 ∧ e0.val = v := by
  simp only [nsFind, findBy, Option.map_eq_some_iff] at e
  exact e
theorem any_of_some {es : Array DictEntry} {x : Str} {v : Value} (e : nsFind es x = some v) : es.any (fun e => e.key.isStr x) = true := by
  obtain ⟨e0, h1, _⟩ := find_of_ns e
  rw [Array.any_eq_true']
  exact ⟨e0, Array.mem_of_find?_eq_some h1, Array.find?_some (p := fun e : DictEntry => e.key.isStr x) h1⟩
theorem any_of_none {es : Array DictEntry} {x : Str} (e : nsFind es x = none) : es.any (fun e => e.key.isStr x) = false := by
  simp only [nsFind, findBy, Option.map_eq_none_iff, Array.find?_eq_none] at e
  rw [Array.any_eq_false']
  exact e
/-- the class's names -/
def kNames : List Str := [Str.ofString "__static_attributes__", Str.ofString "__hash__", Str.ofString "__ge__", Str.ofString "__le__", Str.ofString "__eq__", Str.ofString "__gt__", Str.ofString "__lt__", Str.ofString "__init__", Str.ofString "__slots__", Str.ofString "__module__", Str.ofString "__firstlineno__", Str.ofString "__qualname__"]
theorem kn {x : Str} (h : x ∈ kNames) : x ∈ kNames := h
/-- the class that cmp_to_key makes, its cell L + 1 -/
structure KeyCls (h : Heap) (L C : Addr) : Prop where
  all : ∃ (N p f2 f3 f4 f5 f6 f7 : Addr) (tkp : Tok) (m : Str → Option Value) (cd : ClassData) (sl : Array (Option Value)),
    h.get? C = some ⟨.type "type", none, .cls cd, sl⟩ ∧ (sl[4]?).join = some (.builtin "object.__new__") ∧ cd.mro = [.ref C, .type "object"] ∧ cd.ns = N ∧ cd.slotNames = [Str.ofString "obj"] ∧ cd.hasDict = false ∧ cd.abstract = false ∧ cd.hasDel = false ∧
    h.Ns N m ∧ (∀ x, x ∉ Str.ofString "__doc__" :: Str.ofString "obj" :: kNames → m x = none) ∧ m (Str.ofString "obj") = some (.ref p) ∧ h.get? p = some (descr C tkp) ∧ m (Str.ofString "__hash__") = some .none ∧
    m (Str.ofString "__init__") = some (.ref f2) ∧ m (Str.ofString "__lt__") = some (.ref f3) ∧ m (Str.ofString "__gt__") = some (.ref f4) ∧ m (Str.ofString "__eq__") = some (.ref f5) ∧ m (Str.ofString "__le__") = some (.ref f6) ∧ m (Str.ofString "__ge__") = some (.ref f7) ∧
    MethAt h f2 (Str.ofString "__init__") (kDef 2) [] ∧ MethAt h f3 (Str.ofString "__lt__") (kDef 3) [(Str.ofString "mycmp", L + 1)] ∧ MethAt h f4 (Str.ofString "__gt__") (kDef 4) [(Str.ofString "mycmp", L + 1)] ∧ MethAt h f5 (Str.ofString "__eq__") (kDef 5) [(Str.ofString "mycmp", L + 1)] ∧
    MethAt h f6 (Str.ofString "__le__") (kDef 6) [(Str.ofString "mycmp", L + 1)] ∧ MethAt h f7 (Str.ofString "__ge__") (kDef 7) [(Str.ofString "mycmp", L + 1)]
theorem MethAt.b {L : Addr} {h h' : Heap} {m : Str → Option Value} {f : Addr} {nm : Str} {d : DP} {cl : List (Str × Addr)} (n : h.Ns L m) (k : ∀ b o, b ≠ L → h.get? b = some o → h'.get? b = some o) : MethAt h f nm d cl → MethAt h' f nm d cl
  | ⟨q, pm, cd, ct, e, c⟩ => by
    obtain ⟨o, es, ep, ho, hd, _⟩ := n
    refine ⟨q, pm, cd, ct, k _ _ ?_ e, ?_⟩
    · rintro rfl
      rw [e] at ho; cases ho; cases hd
    · obtain ⟨cc, oc, vs, tt, c1, c2, c3, c4⟩ := c
      refine ⟨cc, oc, vs, tt, c1, k _ _ ?_ c2, c3, c4⟩
      rintro rfl
      rw [c2] at ho; cases ho; rw [c3] at hd; cases hd
theorem class_stmt {prog : Program} {w : World} {A : Around} {E : Value → Shared → Prop} {Q : Flow → Shared → Prop} {s : Shared} {h : Heap} {t : Nat} (L : Addr) (doc pm : Value) (hlim : h.NoLimit) (hA : A.depth + 5 < recursionLimit) (hst : h.get? 2 = some { cls := .none, dict := none, data := .dict #[], slots := #[] })
  (hc34 : h.get? 34 = some code34) (hP30 : h.get? 30 = some { cls := .none, dict := none, data := .fields #[], slots := #[] }) (hsm : ∃ o, h.get? sysModules = some o) (mb mg ml : Str → Option Value) (nb : h.Ns builtinsNs mb) (ng : h.Ns mainGlobals mg) (nl : h.Ns L ml) (eb : mb (Str.ofString "__build_class__") = some (.builtin "__build_class__")) (eo : mb (Str.ofString "object") = some (.type "object")) (go : mg (Str.ofString "object") = none) (gb : mg (Str.ofString "__builtins__") = some (.ref 4)) (gn : mg (Str.ofString "__name__") = some (.str (Str.ofString "law_of0004_01") 234)) (hb4 : h.get? 4 = some ⟨.type "module", some 0, .plain, #[]⟩) (hL30 : L ≠ 30)
  (q : ∀ C h' tk, KpB [30, L] h h' → h.get? C = none → (∃ c', h'.get? 30 = some { cls := .none, data := .fields #[.int 21 0, .int 4 0, .ref c'] }) → KeyCls h' L C → Q (.ret (.ref C)) (st s h' tk)) :
  wpAny (model prog w) A (execs (dpAt 4).body (callEnvC (fdOf (Str.ofString "cmp_to_key") (dpAt 4) .none doc pm (.ref 34)) L 35)) Q E (st s h t) := by
  refine wpAny_execs_cons ?_
  refine wpAny_bind (m := evalAll _) (wpAny_pure (wpAny_bind (wpAny_standAt ?_)))
  refine wpAny_bind (wpAny_bind (wpAny_nsGet (s := st s h t) nb ?_))
  rw [eb]
  refine wpAny_pure (wpAny_bind (wpAny_holding ?_))
  refine wpAny_bind (wpAny_bind (args_cons (Calls.Name_function_global rfl rfl (Calls.loadGlobal_builtin (s := st s h t) ng go nb eo (args_nil (wpAny_pure ?_))) (by decide))))
  refine wpAny_bind (wpAny_standAt (wpAny_holding ?_))
  refine wpAny_bind (do_asis rfl fun bT h₁ k₁ hbT l₁ => ?_)
  refine wpAny_bind (for_cons (a := Value.type "object") (l := []) (wpAny_bind (wpAny_pure (ite_yes rfl (ite_no (by decide) (wpAny_pure (for_nil ?_)))))))
  refine wpAny_bind (wpAny_of_eq to_obj ?_)
  refine wpAny_bind (wpAny_pure (ite_yes rfl ?_))
  refine wpAny_bind (for_cons (a := Value.type "object") (l := []) (wpAny_bind (wpAny_of_eq to_obj (wpAny_bind (wpAny_of_eq st_ty (ite_yes rfl (wpAny_pure (for_nil ?_))))))))
  refine wpAny_bind (wpAny_mkText (s := st s h₁ t) ?_)
  refine wpAny_bind (wpAny_pure (wpAny_holding ?_))
  refine wpAny_bind (m := getAttr? _ _) (wpAny_bind (wpAny_mkText (s := st s h₁ (t + 1)) (wpAny_bind (wpAny_attempt (wpAny_holding (wpAny_bind (wpAny_of_eq ty_ty (wpAny_bind (wpAny_of_eq lk_tg ?_)))))))))
  refine wpAny_bind (wpAny_pure (wpAny_bind (wpAny_attempt (wpAny_holding ?_))))
  show wpAny _ _ (boundAndCalled _ _ _) _ _ _
  unfold boundAndCalled
  rw [bd_tg]
  refine wpAny_bind (wpAny_pure (prep_get (s := s) (k₁ _ _ hst) fun f h₂ tk₂ k₂ hf hf₂ => ?_))
  refine wpAny_pure (wpAny_pure ?_)
  refine wpAny_bind (prep_call (s := s) hf₂ fun ns h₃ tk₃ k₃ hns n₃ => ?_)
  have hnsm : (ns == sysModules) = false := by
    obtain ⟨o1, e1⟩ := hsm
    exact beq_eq_false_iff_ne.mpr (ne_of_none (k₂ _ _ (k₁ _ _ e1)) hns).symm
  refine wpAny_bind (ite_no (by rw [hnsm]; decide) (wpAny_pure ?_))
  refine wpAny_bind (wpAny_specialOf (s := st s h₃ tk₃) (name := Str.ofString "__getitem__") ⟨_, n₃, rfl⟩ F.slot_dict_getitem.lookup ?_)
  refine ite_no Bool.false_ne_true (wpAny_holding ?_)
  refine ite_no (by decide) (wpAny_bind (wpAny_pure ?_))
  refine ite_no (by decide) (wpAny_bind (wpAny_pure ?_))
  have k03 : Kp h h₃ := (k₁.trans k₂).trans k₃
  refine wpAny_bind (m := classCode _ _ _ _ _ _) (class_code (s := s) (h := h₃) rfl rfl (by decide +kernel) (k03 _ _ hc34) (k03 _ _ hP30) fun c' P' T h₄ tk₄ ta tb tc td tu b₄ t₄ c₄ p₄ hc' hP' => ?_)
  have kb4 : ∀ b o, b ≠ 30 → h.get? b = some o → h₄.get? b = some o := fun b o hb e => b₄ b o (by simpa using hb) (k03 _ _ e)
  have ng₄ : h₄.Ns mainGlobals mg := ng.at' fun o e => kb4 _ o (by decide) e
  refine wpAny_bind (wpAny_bind (wpAny_nsGet (s := st s h₄ tk₄) ng₄ ?_))
  rw [gb]
  refine ite_no (by decide) (wpAny_bind (wpAny_load (s := st s h₄ tk₄) (kb4 _ _ (by decide) hb4) (ite_yes rfl (wpAny_pure ?_))))
  refine wpAny_bind (wpAny_bind (wpAny_nsGet (s := st s h₄ tk₄) ng₄ ?_))
  rw [gn]
  refine do_alloc rfl fun F h₅ k₅ hF f₅ => ?_
  refine wpAny_bind (m := closureFor _ _) (wpAny_of_eq (a := [(Str.ofString "mycmp", L + 1)]) (by rfl) ?_)
  refine wpAny_holding ?_
  have k45 : ∀ b o, b ≠ 30 → h.get? b = some o → h₅.get? b = some o := fun b o hb e => k₅ _ _ (kb4 b o hb e)
  have lim₅ : h₅.NoLimit := by
    obtain ⟨m, n, e⟩ := hlim
    exact ⟨m, n.at' fun o e => k45 _ o (by decide) e, e⟩
  refine wpAny_bind (wpAny_enterFrame (s := st s h₅ tk₄) lim₅ (by omega) ?_)
  have hns30 : ns ≠ 30 := (ne_of_none (k₂ _ _ (k₁ _ _ hP30)) hns).symm
  have d₅ : h₅.get? ns = some { cls := .type "dict", dict := none, data := .dict #[], slots := #[] } := k₅ _ _ (b₄ _ _ (by simpa using hns30) n₃)
  have n₅ : h₅.Ns1 ns (fun _ => none) := ⟨_, #[], _, d₅, rfl, fun e he => by simp at he, List.Pairwise.nil, fun _ => rfl⟩
  have ng₅ : h₅.Ns mainGlobals mg := ng₄.at' fun o e => k₅ _ o e
  refine wpAny_bind (wpAny_onRaise (wpAny_bind ?_))
  show wpAny _ _ (loadName _ _) _ _ _
  unfold loadName
  refine wpAny_bind (wpAny_bind (wpAny_load (s := st s h₅ tk₄) d₅ (ite_yes rfl (wpAny_nsGet (s := st s h₅ tk₄) n₅.ns ?_))))
  refine wpAny_bind (wpAny_nsGet (s := st s h₅ tk₄) ng₅ ?_)
  rw [gn]
  refine wpAny_pure ?_
  refine wpAny_bind ?_
  have hnsold : ∀ b o, h.get? b = some o → b ≠ ns := fun b o e => ne_of_none (k₂ _ _ (k₁ _ _ e)) hns
  have nD₅ : NsD h₅ ns (fun _ => none) := ⟨#[], _, d₅, fun e he => by simp at he, List.Pairwise.nil, fun _ => rfl⟩
  refine cs_store nD₅ (fun h₆ n₆ b₆ => ?_)
  refine wpAny_bind (wpAny_mkText (s := st s h₆ _) (wpAny_bind (cs_store n₆ (fun h₇ n₇ b₇ => ?_))))
  refine wpAny_bind (wpAny_mkInt (s := st s h₇ _) (wpAny_bind (cs_store n₇ (fun h₈ n₈ b₈ => wpAny_pure ?_))))
  have k58 : KpB [ns] h₅ h₈ := ((KpB.same b₆).trans (KpB.same b₇)).trans (KpB.same b₈)
  have hc30 : c' ≠ 30 := (ne_of_none (k03 _ _ hP30) hc').symm
  have hP30' : P' ≠ 30 := (ne_of_none (k03 _ _ hP30) hP').symm
  have hcn : c' ≠ ns := (ne_of_none n₃ hc').symm
  have hPn : P' ≠ ns := (ne_of_none n₃ hP').symm
  have hcP : c' ≠ P' := fun e => by rw [e, p₄] at c₄; cases c₄
  have ok₈ : h₈.IsCode c' P' #[] := ⟨_, _, _, _, _, _, _, _, _, _, k58 _ _ (by simpa using hcn) (k₅ _ _ c₄), rfl, rfl, rfl, rfl, rfl, rfl, k58 _ _ (by simpa using hPn) (k₅ _ _ p₄), rfl, trivial, hcP⟩
  have hP4 : P' ≠ 4 := (ne_of_none (k03 _ _ hb4) hP').symm
  have hn4 : ns ≠ 4 := (hnsold _ _ hb4).symm
  have hPg : P' ≠ mainGlobals := (ns_ne (ng.keeps k03) hP').symm
  have hng : ns ≠ mainGlobals := by
    obtain ⟨o, _, _, e, _⟩ := ng
    exact (hnsold _ _ e).symm
  have ng₈ : h₈.Ns mainGlobals mg := ng₅.at' fun o e => k58 _ o (by simpa using hng.symm) e
  have hb8 : h₈.get? 4 = some ⟨.type "module", some 0, .plain, #[]⟩ := k58 _ _ (by simpa using hn4.symm) (k45 _ _ (by decide) hb4)
  refine wpAny_bind (m := run _) (wpAny_run (codeAny_of_tree ?_))
  refine wpAny_bind (m := blockStart _ _) (wpAny_of_eq (a := ()) (by rfl) ?_)
  refine wpAny_bind (wpAny_onRaise ?_)
  refine class_body (s := s) (h := h₈) (L := L) (ns := ns) (c := c') (F := F) (Pl := P') ok₈ ng₈ gb hb8 hP4 hPg hPn hcn hn4 hng n₈ fun sl f2 f3 f4 f5 f6 f7 tm to' h₉ tk₉ k₉ hsl9 hsl m2 m3 m4 m5 m6 m7 n₉ => ?_
  refine wpAny_pure ?_
  refine wpAny_bind (wpAny_onRaise (wpAny_bind (wpAny_mkStrs (s := st s h₉ tk₉) fun vs => wpAny_bind (do_asis (s := s) (h := h₉) rfl fun tA h₁₀ k₁₀ htA a₁₀ => wpAny_bind (cs_store (n₉.at fun o e => k₁₀ _ o e) fun h₁₁ n₁₁ b₁₁ => wpAny_pure ?_)))))
  obtain ⟨mm, hmm, n₁₁⟩ : ∃ mm, mm = _ ∧ NsD h₁₁ ns mm := ⟨_, rfl, n₁₁⟩
  obtain ⟨es, ep, hn₁₁, hk, hu, hm⟩ := n₁₁
  have k9a : KpB [P', ns] h₉ h₁₁ := (KpB.of k₁₀).trans ((KpB.same b₁₁).more (by simp))
  have k5a : KpB [P', ns] h₅ h₁₁ := ((k58.more (by simp)).trans k₉).trans k9a
  have kha : ∀ b o, b ≠ 30 → h.get? b = some o → h₁₁.get? b = some o := fun b o hb e => by
    refine k5a b o ?_ (k45 b o hb e)
    simp only [List.mem_cons, List.not_mem_nil, or_false, not_or]
    exact ⟨ne_of_none (k03 _ _ e) hP', hnsold b o e⟩
  have hbT11 : ∃ n1, h₁₁.get? bT = some ⟨.type "tuple", none, .seq #[.type "object"] n1, #[]⟩ := ⟨0, k5a bT _ (by
      simp only [List.mem_cons, List.not_mem_nil, or_false, not_or]
      exact ⟨ne_of_none (k₃ _ _ (k₂ _ _ l₁)) hP', ne_of_none (k₂ _ _ l₁) hns⟩) (k₅ _ _ (b₄ _ _ (by
        have := ne_of_none hP30 hbT
        simpa using this.symm) (k₃ _ _ (k₂ _ _ l₁))))⟩
  obtain ⟨n1, hbT11⟩ := hbT11
  refine wpAny_bind (wpAny_call ?_)
  obtain ⟨e0, he0, hv0⟩ := find_of_ns ((hm (Str.ofString "__slots__")).trans (show mm _ = some (Value.ref sl) by rw [hmm]; rfl))
  obtain ⟨n3, hsl⟩ := hsl
  have fn : ∀ {f : Addr} {nm : Str} {d : DP} {cl : List (Str × Addr)}, MethB [P', ns] h₉ f nm d cl → NoSN (model prog w) h₁₁ (.ref f) := fun mm => by
    obtain ⟨q, pm, cd, ct, e, _⟩ := mm.next k9a
    exact sn_type e rfl sn_func
  have htAn : tA ≠ ns := by
    obtain ⟨_, _, e, _⟩ := n₉
    exact (ne_of_none e htA).symm
  have hSN : ∀ x v, mm x = some v → NoSN (model prog w) h₁₁ v := by
    rw [hmm]
    exact fun x v => if_some (sn_type ((b₁₁.2 tA htAn).trans a₁₀) rfl sn_tuple) (if_some sn_none (if_some (fn m7) (if_some (fn m6) (if_some (fn m5) (if_some (fn m4) (if_some (fn m3) (if_some (fn m2) (if_some (sn_type (k9a _ _ hsl9 hsl) rfl sn_list) (if_some sn_str (if_some sn_int (if_some sn_str (if_some sn_str (fun e => nomatch e)))))))))))))
  have hnm : ∀ x, mm x ≠ none → x ∈ kNames := by
    rw [hmm]
    exact fun x => if_mem (by simp [kNames]) (if_mem (by simp [kNames]) (if_mem (by simp [kNames]) (if_mem (by simp [kNames]) (if_mem (by simp [kNames]) (if_mem (by simp [kNames]) (if_mem (by simp [kNames]) (if_mem (by simp [kNames]) (if_mem (by simp [kNames]) (if_mem (by simp [kNames]) (if_mem (by simp [kNames]) (if_mem (by simp [kNames]) (if_mem (by simp [kNames]) (fun e => absurd rfl e)))))))))))))
  have no : ∀ x, x ∉ kNames → mm x = none := fun x hx => by
    cases e : mm x with
    | none => rfl
    | some v => exact absurd (hnm x (by rw [e]; intro z; cases z)) hx
  have hsz : es.size ≤ kNames.length := ns1_size (NsD.ns1 ⟨es, ep, hn₁₁, hk, hu, hm⟩) kNames hnm hn₁₁ rfl
  have hkn : kNames.length = 12 := by decide
  refine type_call (s := s) (h := h₁₁) bT ns n1 ep _ es hbT11 hn₁₁ hnsm mm hk hu hm e0 sl n3 to' he0 hv0 (k9a _ _ hsl9 hsl) (any_of_none ((hm _).trans (no _ (by decide)))) (any_of_some (v := .str (Str.ofString "cpy313.functools") tm) ((hm _).trans (by rw [hmm]; rfl))) (any_of_none ((hm _).trans (no _ (by decide)))) (by omega) _ (by rw [hmm]; rfl) (no _ (by decide)) (no _ (by decide)) (no _ (by decide)) (no _ (by decide)) kNames hnm (by omega) (no _ (by decide)) hSN (kha _ _ (by decide) hst) (.ref f5) .none (by rw [hmm]; rfl) (by rw [hmm]; rfl) (no _ (by decide)) (no _ (by decide)) ?_
  intro C N p h₁₂ tk₁₂ tkp m' cd sl' k₁₂ hC hN hp c₁₂ cs c1 c2 c3 c4 c5 c6 n₁₂ f₁₂ fo po
  refine wpAny_pure (wpAny_bind (wpAny_pure (wpAny_bind (wpAny_standAt (wpAny_bind (wpAny_bindName ?_))))))
  have kL11 : h₁₁.Ns L ml := nl.at' fun o e => kha _ o hL30 e
  have nl₁₂ : h₁₂.Ns L ml := kL11.keeps k₁₂
  refine st_local nl₁₂ (fun h₁₃ n₁₃ b₁₃ => wpAny_pure (wpAny_execs_cons (wpAny_Return_some (ev_local n₁₃ (if_pos rfl) ?_))))
  have tr : ∀ b o, b ≠ L → h₁₂.get? b = some o → h₁₃.get? b = some o := fun b o hb e => (b₁₃.2 b hb).trans e
  have hC0 : h.get? C = none := by
    cases e : h.get? C with
    | none => rfl
    | some o =>
      by_cases h30 : C = 30
      · have : ∃ o, h₁₁.get? 30 = some o := ⟨_, k5a 30 _ (by simp only [List.mem_cons, List.not_mem_nil, or_false, not_or]; exact ⟨hP30'.symm, hns30.symm⟩) (k₅ _ _ t₄)⟩
        obtain ⟨o', e'⟩ := this
        rw [h30, e'] at hC; cases hC
      · rw [kha C o h30 e] at hC; cases hC
  refine q C h₁₃ _ (fun b o hb e => ?_) hC0 ⟨c', tr _ _ hL30.symm (k₁₂ _ _ (k5a 30 _ (by simp only [List.mem_cons, List.not_mem_nil, or_false, not_or]; exact ⟨hP30'.symm, hns30.symm⟩) (k₅ _ _ t₄)))⟩ ⟨N, p, f2, f3, f4, f5, f6, f7, tkp, m', cd, sl', tr _ _ (ns_ne kL11 hC).symm c₁₂, cs, c1, c2, c3, c4, c5, c6, n₁₂.ns.at' fun o e => tr _ o (ns_ne kL11 hN).symm e, fun x hx => ?_, fo, tr _ _ (ns_ne kL11 hp).symm po, ?_, ?_, ?_, ?_, ?_, ?_, ?_, (((m2.next k9a).meth).mono k₁₂).b nl₁₂ tr, (((m3.next k9a).meth).mono k₁₂).b nl₁₂ tr, (((m4.next k9a).meth).mono k₁₂).b nl₁₂ tr, (((m5.next k9a).meth).mono k₁₂).b nl₁₂ tr, (((m6.next k9a).meth).mono k₁₂).b nl₁₂ tr, (((m7.next k9a).meth).mono k₁₂).b nl₁₂ tr⟩
  · simp only [List.mem_cons, List.not_mem_nil, or_false, not_or] at hb
    exact tr _ _ hb.2 (k₁₂ _ _ (kha b o hb.1 e))
  · rw [f₁₂ x (fun hm => hx (by
      simp only [List.mem_cons, List.not_mem_nil, or_false] at hm
      rcases hm with rfl | rfl | rfl
      · exact .head _
      · exact .tail _ (.head _)
      · simp [kNames]))]
    exact no x fun hm => hx (.tail _ (.tail _ hm))
  all_goals (rw [f₁₂ _ (by decide), hmm]; rfl)
end Mine
end
section
open PySem PySem.W PySem.W.X PyProof.Rows PySem.SeqAt
set_option maxRecDepth 100000
set_option maxHeartbeats 4000000
namespace Mine
/-- what cmp_to_key finds in the heap -/
structure GndK (h : Heap) : Prop where
  f35 : ∃ o doc pm, h.get? 35 = some o ∧ o.data = .func (fdOf (Str.ofString "cmp_to_key") (dpAt 4) .none doc pm (.ref 34))
  st2 : h.get? 2 = some { cls := .none, dict := none, data := .dict #[], slots := #[] }
  c34 : h.get? 34 = some code34
  p30 : h.get? 30 = some { cls := .none, dict := none, data := .fields #[], slots := #[] }
  sm : ∃ o, h.get? sysModules = some o
  o4 : h.get? 4 = some ⟨.type "module", some 0, .plain, #[]⟩
  b : ∃ mb, h.Ns builtinsNs mb ∧ mb (Str.ofString "__build_class__") = some (.builtin "__build_class__") ∧ mb (Str.ofString "object") = some (.type "object")
  g : ∃ mg, h.Ns mainGlobals mg ∧ mg (Str.ofString "object") = none ∧ mg (Str.ofString "__builtins__") = some (.ref 4) ∧ mg (Str.ofString "__name__") = some (.str (Str.ofString "law_of0004_01") 234)
section
variable {prog : Program} {w : World} {A : Around} {E : Value → Shared → Prop} {s : Shared} {h : Heap} {t : Nat}
/-- cmp_to_key(_law_joined) -/
theorem key_spec {Q : Value → Shared → Prop} (hA : AOk 6 A) (hlim : h.NoLimit) (G : GndK h)
    (q : ∀ C L h' tk, KpB [30] h h' → h.get? C = none → h.get? (L + 1) = none → (∃ c', h'.get? 30 = some { cls := .none, data := .fields #[.int 21 0, .int 4 0, .ref c'] }) → KeyCls h' L C → h'.IsCell (L + 1) (some (.ref 68)) → Q (.ref C) (st s h' tk)) : wpAny (model prog w) A (call (.ref 35) [.ref 68]) Q E (st s h t) := by
  obtain ⟨o, doc, pm, ho, hd⟩ := G.f35
  refine wpAny_call (codeAny_call_cells (s := st s h t) (binds := [(Str.ofString "mycmp", .ref 68)]) (by have := hA.hd; omega) ho hd hlim ⟨34, _, _, _, rfl, G.c34, rfl, rfl⟩ rfl (by rfl) rfl (fun x hx => ?_) (fun s₁ x => ?_))
  · rw [List.mem_singleton.mp hx]
    exact .inr ⟨rfl, rfl⟩
  obtain ⟨h₁, tk, rfl, k⟩ := x.done
  have n := x.toInCall.ns
  have cx : h₁.IsCell (h.objs.size + 1) (some (.ref 68)) := x.cell (Str.ofString "mycmp") (h.objs.size + 1) (by rfl)
  obtain ⟨mb, nb, eb, eo⟩ := G.b
  obtain ⟨mg, ng, go, gb, gn⟩ := G.g
  have hL : h.get? h.objs.size = none := none_of_size
  refine class_stmt (s := s) (h := h₁) h.objs.size doc pm (hlim.keeps k) (by have := hA.hd; show A.depth + 1 + 5 < _; omega) (k _ _ G.st2) (k _ _ G.c34) (k _ _ G.p30) (let ⟨o, e⟩ := G.sm; ⟨o, k _ _ e⟩) mb mg _ (nb.keeps k) (ng.keeps k) n eb eo go gb gn (k _ _ G.o4) (ne_of_none G.p30 hL).symm
    (fun C h' tk' k' hC h30 KC => ?_)
  refine q C _ h' tk' (fun b o hb e => ?_) (none_of_kp k hC) (Heap.get?_none_of_le (Nat.le_succ _)) h30 KC ?_
  · refine k' b o ?_ (k _ _ e)
    simp only [List.mem_cons, List.not_mem_nil, or_false, not_or] at hb ⊢
    exact ⟨hb, ne_of_none e hL⟩
  · obtain ⟨oc, e, d⟩ := cx
    refine ⟨oc, k' _ _ ?_ e, d⟩
    simp only [List.mem_cons, List.not_mem_nil, or_false, not_or]
    refine ⟨fun z => ?_, Nat.succ_ne_self _⟩
    rw [z, k _ _ G.p30] at e
    cases e; cases d
end
end Mine
end
section
open PySem PySem.W PySem.W.X PyProof.Rows PySem.SeqAt
set_option maxRecDepth 100000
set_option maxHeartbeats 4000000
namespace Mine
/-- what a written-out part of the heap tells of the class -/
structure KFacts (K : Frag) (h : Heap) (C p f : Addr) (m : Str → Option Value) (cd : ClassData) (sl : Array (Option Value)) : Prop where
  into : K.In h
  find : ∀ name r, (m name).orElse (fun _ => fastBuiltinOwn "object" name) = r → findIn K (.ref C) name = some r
  look : K.lookup C = some ⟨.type "type", none, .cls cd, sl⟩
  tp : typeIn K (.ref p) = some (.type "member_descriptor")
  tf : typeIn K (.ref f) = some (.type "function")
  slot : slotIn K p C = some 0
theorem find_raw {es : Array DictEntry} (hk : StrKeys es) (name : Str) : (match es.toList.find? (·.key.isStr name) with
      | some e => some (some e.val)
      | none => if es.toList.any (·.refKey) then none else some none) = some (nsFind es name) := by
  have hany : es.toList.any (·.refKey) = false := by
    rw [Array.any_toList, Array.any_eq_false']; intro e he; obtain ⟨n, t, h⟩ := hk e he; simp [DictEntry.refKey, h]
  obtain ⟨l⟩ := es
  simp only [nsFind, findBy, List.find?_toArray]
  cases l.find? (fun e => e.key.isStr name) with
  | some e => rfl
  | none => simp only [hany]; rfl
theorem kfacts {h : Heap} {C N p f : Addr} {m : Str → Option Value} {cd : ClassData} {sl : Array (Option Value)} {tkp : Tok} {fd : FuncData} (hC : h.get? C = some ⟨.type "type", none, .cls cd, sl⟩) (c1 : cd.mro = [.ref C, .type "object"]) (c2 : cd.ns = N) (c3 : cd.slotNames = [Str.ofString "obj"])
    (n : h.Ns N m) (hp : h.get? p = some (descr C tkp)) (hf : h.get? f = some { cls := .type "function", data := .func fd }) : ∃ K, KFacts K h C p f m cd sl := by
  obtain ⟨⟨cN, dN, dt, sN⟩, es, ep, hN, hd, hk, hm⟩ := n
  simp only at hd
  subst hd
  have e1 : (N == C) = false := by rw [beq_eq_false_iff_ne]; rintro rfl; rw [hC] at hN; exact absurd (congrArg Obj.data (Option.some.inj hN)) (by simp)
  have e2 : (p == C) = false := by rw [beq_eq_false_iff_ne]; rintro rfl; rw [hC] at hp; exact absurd (congrArg Obj.data (Option.some.inj hp)) (by simp)
  have e3 : (p == N) = false := by rw [beq_eq_false_iff_ne]; rintro rfl; rw [hN] at hp; exact absurd (congrArg Obj.data (Option.some.inj hp)) (by simp)
  have e4 : (f == C) = false := by rw [beq_eq_false_iff_ne]; rintro rfl; rw [hC] at hf; exact absurd (congrArg Obj.data (Option.some.inj hf)) (by simp)
  have e5 : (f == N) = false := by rw [beq_eq_false_iff_ne]; rintro rfl; rw [hN] at hf; exact absurd (congrArg Obj.data (Option.some.inj hf)) (by simp)
  have e6 : (f == p) = false := by rw [beq_eq_false_iff_ne]; rintro rfl; rw [hp] at hf; exact absurd (congrArg Obj.data (Option.some.inj hf)) (by simp)
  let K : Frag := [(C, ⟨.type "type", none, .cls cd, sl⟩), (N, ⟨cN, dN, .dict es ep, sN⟩), (p, descr C tkp), (f, { cls := .type "function", data := .func fd })]
  have lC : K.lookup C = some ⟨.type "type", none, .cls cd, sl⟩ := by simp [K, List.lookup]
  have lN : K.lookup N = some ⟨cN, dN, .dict es ep, sN⟩ := by simp [K, List.lookup, e1]
  have lp : K.lookup p = some (descr C tkp) := by simp [K, List.lookup, e2, e3]
  have lf : K.lookup f = some { cls := .type "function", data := .func fd } := by simp [K, List.lookup, e4, e5, e6]
  have cls : clsIn K C = some cd := by unfold clsIn; rw [lC]
  refine ⟨K, ⟨?_, ?_, lC, ?_, ?_, ?_⟩⟩
  · intro a o e
    simp only [K, List.lookup] at e
    split at e
    · rename_i q; cases e; rw [beq_iff_eq.mp q]; exact hC
    · split at e
      · rename_i q; cases e; rw [beq_iff_eq.mp q]; exact hN
      · split at e
        · rename_i q; cases e; rw [beq_iff_eq.mp q]; exact hp
        · split at e
          · rename_i q; cases e; rw [beq_iff_eq.mp q]; exact hf
          · cases e
  · intro name r hr
    have hns : nsIn K N name = some (m name) := by
      unfold nsIn
      rw [lN, ← hm name]
      exact find_raw hk name
    have hfi : findIn K (.ref C) name = alongIn K name cd.mro := by
      show (match K.lookup C with | some ⟨_, _, .cls cd, _⟩ => alongIn K name cd.mro | _ => none) = _
      rw [lC]
    rw [hfi]
    rw [c1]
    have o1 : ownIn K name (.ref C) = some (m name) := by
      show (match K.lookup C with | some ⟨_, _, .cls cd, _⟩ => nsIn K cd.ns name | _ => none) = _
      rw [lC]
      show nsIn K cd.ns name = _
      rw [c2]; exact hns
    unfold alongIn
    rw [o1]
    cases hmn : m name with
    | some v => rw [hmn] at hr; exact congrArg some hr
    | none =>
      rw [hmn] at hr
      show alongIn K name [.type "object"] = some r
      unfold alongIn
      show (match some (fastBuiltinOwn "object" name) with | some (some v) => some (some v) | some none => alongIn K name [] | none => none) = some r
      have hr' : fastBuiltinOwn "object" name = r := hr
      rw [hr']
      cases r <;> rfl
  · show (K.lookup p).map (·.cls) = _
    rw [lp]; rfl
  · show (K.lookup f).map (·.cls) = _
    rw [lf]; rfl
  · have hr : recIn K p "member_descriptor" = some [.str (Str.ofString "obj") tkp, .ref C, .builtin "proto.slot", .builtin "proto.slot#set", .int 0 0] := by
      unfold recIn
      rw [lp]; rfl
    unfold slotIn
    rw [hr, cls]
    dsimp only
    rw [c1, c3]
    simp
theorem ob_init : fastBuiltinOwn "object" (Str.ofString "__setattr__") = some (.builtin "object.__setattr__") := by decide +kernel
theorem ob_ga : fastBuiltinOwn "object" (Str.ofString "__getattribute__") = some (.builtin "object.__getattribute__") := by decide +kernel
theorem ob_gx : fastBuiltinOwn "object" (Str.ofString "__getattr__") = none := by decide +kernel
theorem ty_call : fastLookup "type" (Str.ofString "__call__") = some (some (.builtin "type.__call__")) := by decide +kernel
theorem md_get : fastLookup "member_descriptor" (Str.ofString "__get__") = some (some (.builtin "member_descriptor.__get__")) := by decide +kernel
theorem md_set : fastLookup "member_descriptor" (Str.ofString "__set__") = some (some (.builtin "member_descriptor.__set__")) := by decide +kernel
theorem sub_tt : subIn [] (.type "type") (.type "type") = some true := by decide +kernel
/-- the class that cmp_to_key makes, seen through one of its methods -/
structure KSee (h : Heap) (C p f : Addr) (nm : Str) where
  K : Frag
  m : Str → Option Value
  cd : ClassData
  sl : Array (Option Value)
  F : KFacts K h C p f m cd sl
  c0 : (sl[4]?).join = some (.builtin "object.__new__")
  c1 : cd.mro = [.ref C, .type "object"]
  c2 : cd.abstract = false
  c3 : cd.hasDel = false
  no : ∀ x, x ∉ Str.ofString "__doc__" :: Str.ofString "obj" :: kNames → m x = none
  ob : m (Str.ofString "obj") = some (.ref p)
  me : m nm = some (.ref f)
namespace KSee
variable {h : Heap} {C p f : Addr} {nm : Str}
theorem cls (X : KSee h C p f nm) : clsIn X.K C = some X.cd := by unfold clsIn; rw [X.F.look]
theorem find (X : KSee h C p f nm) : findIn X.K (.ref C) nm = some (some (.ref f)) := X.F.find _ _ (by rw [X.me]; rfl)
theorem findo (X : KSee h C p f nm) : findIn X.K (.ref C) (Str.ofString "obj") = some (some (.ref p)) := X.F.find _ _ (by rw [X.ob]; rfl)
theorem ga (X : KSee h C p f nm) : findIn X.K (.ref C) (Str.ofString "__getattribute__") = some (some (.builtin "object.__getattribute__")) := X.F.find _ _ (by rw [X.no _ (by decide)]; exact ob_ga)
theorem gx (X : KSee h C p f nm) : findIn X.K (.ref C) (Str.ofString "__getattr__") = some none := X.F.find _ _ (by rw [X.no _ (by decide)]; exact ob_gx)
theorem sa (X : KSee h C p f nm) : findIn X.K (.ref C) (Str.ofString "__setattr__") = some (some (.builtin "object.__setattr__")) := X.F.find _ _ (by rw [X.no _ (by decide)]; exact ob_init)
theorem tC (X : KSee h C p f nm) : typeIn X.K (.ref C) = some (.type "type") := by
  show (X.K.lookup C).map (·.cls) = _
  rw [X.F.look]; rfl
theorem gets (X : KSee h C p f nm) : specialIn X.K (.ref p) (Str.ofString "__get__") = some (some (.builtin "member_descriptor.__get__")) := by
  unfold specialIn; rw [X.F.tp]; exact md_get
theorem takes (X : KSee h C p f nm) : takesIn X.K (.ref p) = some true := by
  have : specialIn X.K (.ref p) (Str.ofString "__set__") = some (some (.builtin "member_descriptor.__set__")) := by
    unfold specialIn; rw [X.F.tp]; exact md_set
  show (match specialIn X.K (.ref p) (Str.ofString "__set__") with | some (some _) => some true | some none => (specialIn X.K (.ref p) (Str.ofString "__delete__")).map (·.isSome) | none => none) = some true
  rw [this]
theorem taker (X : KSee h C p f nm) : takerIn X.K C (Str.ofString "obj") = some (some (.ref p)) := by
  unfold takerIn
  rw [X.findo]
  show (takesIn X.K (.ref p)).map _ = _
  rw [X.takes]; rfl
theorem over (X : KSee h C p f nm) : plainOver X.K C = true := by
  unfold plainOver
  rw [X.cls]
  show onlyObject X.cd.mro = true
  rw [X.c1]; rfl
theorem makes (X : KSee h C p f nm) : makesIn X.K C = true := by
  unfold makesIn
  rw [X.F.look]
  have a1 : specialIn X.K (.ref C) (Str.ofString "__call__") = some (some (.builtin "type.__call__")) := by
    unfold specialIn; rw [X.tC]; exact ty_call
  have a2 : instIn X.K (.ref C) (.type "type") = some true := by
    unfold instIn; rw [X.tC]; exact sub_tt
  have a3 : (X.sl.toList[4]?).join = some (.builtin "object.__new__") := by rw [Array.getElem?_toList]; exact X.c0
  show (!X.cd.abstract && !X.cd.hasDel && (X.sl.toList[4]?).join == some (.builtin "object.__new__") && !X.cd.mro.isEmpty && X.cd.mro.contains (.ref C) && X.cd.mro.contains (.type "object") &&
      specialIn X.K (.ref C) (Str.ofString "__call__") == some (some (.builtin "type.__call__")) && instIn X.K (.ref C) (.type "type") == some true) = true
  rw [a1, a2, a3, X.c1, X.c2, X.c3]
  simp
end KSee
end Mine
end
section
open PySem PySem.W PySem.W.X PyProof.Rows PySem.SeqAt
set_option maxRecDepth 100000
set_option maxHeartbeats 4000000
namespace Mine
theorem KeyCls.mono {h h' : Heap} {L C : Addr} (k : Kp h h') : KeyCls h L C → KeyCls h' L C
  | ⟨⟨N, p, f2, f3, f4, f5, f6, f7, tkp, m, cd, sl, a0, a1, a2, a3, a4, a5, a6, a7, n, b0, b1, b2, b3, b4, b5, b6, b7, b8, b9, m2, m3, m4, m5, m6, m7⟩⟩ =>
    ⟨⟨N, p, f2, f3, f4, f5, f6, f7, tkp, m, cd, sl, k _ _ a0, a1, a2, a3, a4, a5, a6, a7, n.keeps k, b0, b1, k _ _ b2, b3, b4, b5, b6, b7, b8, b9, m2.mono k, m3.mono k, m4.mono k, m5.mono k, m6.mono k, m7.mono k⟩⟩
/-- the class by one method -/
def Sees (h : Heap) (L C : Addr) (nm : Str) (d : DP) (cl : List (Str × Addr)) : Prop := ∃ p f, Nonempty (KSee h C p f nm) ∧ MethAt h f nm d cl
theorem KeyCls.sees {h : Heap} {L C : Addr} (X : KeyCls h L C) : Sees h L C (Str.ofString "__init__") (kDef 2) [] ∧ Sees h L C (Str.ofString "__lt__") (kDef 3) [(Str.ofString "mycmp", L + 1)] ∧ Sees h L C (Str.ofString "__gt__") (kDef 4) [(Str.ofString "mycmp", L + 1)] ∧
    Sees h L C (Str.ofString "__eq__") (kDef 5) [(Str.ofString "mycmp", L + 1)] ∧ Sees h L C (Str.ofString "__le__") (kDef 6) [(Str.ofString "mycmp", L + 1)] ∧ Sees h L C (Str.ofString "__ge__") (kDef 7) [(Str.ofString "mycmp", L + 1)] := by
  obtain ⟨⟨N, p, f2, f3, f4, f5, f6, f7, tkp, m, cd, sl, a0, a1, a2, a3, a4, a5, a6, a7, n, b0, b1, b2, b3, b4, b5, b6, b7, b8, b9, m2, m3, m4, m5, m6, m7⟩⟩ := X
  have one : ∀ {f : Addr} {nm : Str} {d : DP} {cl : List (Str × Addr)}, m nm = some (.ref f) → MethAt h f nm d cl → Sees h L C nm d cl := fun {f nm d cl} e M => by
    obtain ⟨q, pm, cd', ct, e', _⟩ := id M
    obtain ⟨K, F⟩ := kfacts a0 a2 a3 a4 n b2 e'
    exact ⟨p, f, ⟨⟨K, m, cd, sl, F, a1, a2, a6, a7, b0, b1, e⟩⟩, M⟩
  exact ⟨one b4 m2, one b5 m3, one b6 m4, one b7 m5, one b8 m6, one b9 m7⟩
section
variable {prog : Program} {w : World} {A : Around} {E : Value → Shared → Prop} {R : Result → Shared → Prop} {s : Shared} {h : Heap} {t : Nat} {env : Env}
theorem call_meth {f : Addr} {nm : Str} {d : DP} {cl : List (Str × Addr)} {args : List Value} {binds : List (Str × Value)} 
    (hA : AOk 1 A) (hlim : h.NoLimit) (hf : MethAt h f nm d cl)
    (hbind : ∀ q pm cd ct, BindsTo (st s h t) (mdOf nm q d cl pm cd ct) ⟨args, []⟩ binds)
    (q : ∀ q pm cd ct L h₀ tk, Kp h h₀ → h.get? L = none → h₀.Ns L (fun x => binds.reverse.lookup x) →
      wpAny (model prog w) (A.deeper (callEnv (mdOf nm q d cl pm cd ct) L f)) (execs d.body (callEnv (mdOf nm q d cl pm cd ct) L f))
        (fun fl s' => match fl with | .ret v => R (.ok (.ret v)) s' | _ => R (.ok (.ret .none)) s') (fun _ _ => False) (st s h₀ tk))
    (hcell : ∀ x ∈ d.scope.names, x.2 ≠ .cell := by decide) (hloc : ∀ x ∈ binds, d.scope.names.lookup x.1 = some .local := by exact locs rfl)
    (hco : d.scope.isCoroutine = false := by rfl) (hgen : d.scope.isGenerator = false := by rfl) (hk : d.scope.kind = .function := by rfl) :
    codeAny (model prog w) A (.call (.ref f) ⟨args, []⟩) R (st s h t) := by
  obtain ⟨qn, pm, cd, ct, ho, hc⟩ := hf
  refine codeAny_call_def (s := st s h t) (by have := hA.hd; omega) ho rfl hlim hc rfl (hbind qn pm cd ct) hcell hloc (fun h₀ hns hkp => ?_) hco hgen hk
  refine wpAny_mono (q qn pm cd ct _ h₀ _ hkp none_of_size hns) (fun fl s' q => ?_) (fun _ _ x => x.elim)
  cases fl <;> exact q
/-- x is a key of v -/
def KeyAt (h : Heap) (L C x : Addr) (v : Value) : Prop :=
  ∃ h₀ dx, Kp h₀ h ∧ h₀.objs.size ≤ dx ∧ KeyCls h₀ L C ∧ h.Ns dx (fun _ => none) ∧ h.get? x = some { cls := .ref C, dict := some dx, data := .plain, slots := #[some v] }
theorem KeyAt.mono {h h' : Heap} {L C x : Addr} {v : Value} (k : Kp h h') : KeyAt h L C x v → KeyAt h' L C x v
  | ⟨h₀, dx, a, b, c, d, e⟩ => ⟨h₀, dx, a.trans k, b, c, d.keeps k, k _ _ e⟩
/-- K(v) -/
theorem make_spec {L C : Addr} {v : Value} {Q : Value → Shared → Prop} (hA : AOk 3 A) (hlim : h.NoLimit) (KC : KeyCls h L C)
    (q : ∀ x h' tk, Kp h h' → h.get? x = none → KeyAt h' L C x v → Q (.ref x) (st s h' tk)) : wpAny (model prog w) A (call (.ref C) [v]) Q E (st s h t) := by
  obtain ⟨p, f, ⟨X⟩, M⟩ := KC.sees.1
  refine wpAny_call (make_core (makes_of X.F.into X.makes) (looks_findIn X.F.into X.find) (fun self => bind_fn X.F.into self X.F.tf) (.inl rfl) ?_)
  have kp : Kp h ((h.push emptyDict).push (instObj C h.objs.size)) := fun b o e => Heap.get?_push_of_some _ (Heap.get?_push_of_some _ e)
  have hA' : AOk 2 (A.under (.builtin "type.__call__" ⟨[.ref C, v], []⟩)) := ⟨hA.hh, by have := hA.hd; show A.depth + 1 + 2 < _; omega, by have := hA.hu; show A.units + 1 + 80 + 4 * 2 < _; omega⟩
  refine call_meth (s := s) (t := t) (hA'.less (by omega)) (hlim.keeps kp) (M.mono kp) (binds := [(Str.ofString "self", .ref (h.objs.size + 1)), (Str.ofString "obj", v)]) (fun q pm cd ct => BindsTo.of_eq (by rfl)) (fun qn pm cd ct Lf h₁ t₁ k₁ hL n₁ => ?_)
  have hx0 : ((h.push emptyDict).push (instObj C h.objs.size)).get? (h.objs.size + 1) = some (instObj C h.objs.size) := by heap_get
  have hdx0 : ((h.push emptyDict).push (instObj C h.objs.size)).get? h.objs.size = some emptyDict := by heap_get
  have F : Fr h h.objs.size h₁ (fun _ => none) := ⟨⟨_, #[], _, k₁ _ _ hdx0, rfl, fun e he => by simp at he, fun _ => rfl⟩, kp.trans k₁, Nat.le_refl _⟩
  have N : News h h.objs.size h₁ [(h.objs.size + 1, instObj C h.objs.size)] := fun q hq => by
    rw [List.mem_singleton.mp hq]
    exact ⟨k₁ _ _ hx0, Nat.succ_ne_self _, Heap.get?_none_of_le (Nat.le_succ _)⟩
  have I : PySem.W.InstAt h₁ (h.objs.size + 1) (instObj C h.objs.size) C (some emptyDict) := ⟨k₁ _ _ hx0, rfl, rfl, k₁ _ _ hdx0⟩
  refine wpAny_execs_cons (plainObj_wpAny_Assign_Attribute (ev_local n₁ rfl (ev_local n₁ rfl ?_)))
  refine set_slot (s := st s h₁ t₁) F X.F.into N I X.sa X.over X.taker X.F.tp X.F.slot (by omega) rfl rfl (.head (fun _ h => nomatch h)) (fun h₂ F₂ N₂ => wpAny_execs_nil ?_)
  refine ⟨rfl, q _ h₂ _ F₂.keep (Heap.get?_none_of_le (Nat.le_succ _)) ⟨h, h.objs.size, F₂.keep, Nat.le_refl _, KC, F₂.ns, (N₂ _ (.head _)).1⟩⟩
/-- x.obj -/
theorem get_key {L C x a : Addr} {expr : Bool} {Q : Value → Shared → Prop} (X : KeyAt h L C x (.ref a)) (q : ∀ tk, Q (.ref a) (st s h tk)) : wpAny (model prog w) A (getAttr (.ref x) (Str.ofString "obj") expr) Q E (st s h t) := by
  obtain ⟨h₀, dx, k, hdx, KC, n, hx⟩ := X
  obtain ⟨p, f, ⟨Y⟩, M⟩ := KC.sees.1
  obtain ⟨od, es, ep, hod, _⟩ := id n
  have I : PySem.W.InstAt h x { cls := .ref C, dict := some dx, data := .plain, slots := #[some (.ref a)] } C (some od) := ⟨hx, rfl, rfl, hod⟩
  refine get_slot (s := st s h t) (h₀ := h₀) (L := dx) ⟨n, k, hdx⟩ Y.F.into I ?_ ?_ Y.findo Y.gets Y.takes Y.F.slot rfl rfl (q _)
  · show (findIn Y.K (.ref C) (Str.ofString "__getattribute__") == some (some (.builtin "object.__getattribute__")) && findIn Y.K (.ref C) (Str.ofString "__getattr__") == some none) = true
    rw [Y.ga, Y.gx]; simp
  · show (clsIn Y.K C).isSome = true
    rw [Y.cls]; rfl
theorem ev_free {M : Model} {x : Str} {pos : Pos} {c : Addr} {v : Value} {Q : Value → Shared → Prop} (hc : env.cells.lookup x = some c) (hv : h.IsCell c (some v)) (q : Q v (st s h t))
    (hk : env.scope.kind = .function := by rfl) (hl : env.kindOf x = some .free := by rfl) (hd : (x == ("__debug__" : Str)) = false := by decide) (hn : (x == Str.ofString "__classdict__") = false := by decide) :
    wpAny M A (eval (.Name x pos) env) Q E (st s h t) := wpAny_Name (wpAny_loadName_free (s := st s h t) hk hl hc hv q hn) hd
/-- keys compared -/
theorem cmp_key {op : CmpOp} {i : Nat} {L C x y : Addr} {vx vy : Value} {ns ms : List Int} {r : Int → Bool} {p1 p2 p3 p4 p5 p6 p7 p8 p9 pa pb : Pos} {Q : Value → Shared → Prop} (hA : AOk 5 A) (G : Gnd h) (hx : KeyAt h L C x vx) (hy : KeyAt h L C y vy) (px : RowAt h vx ns) (py : RowAt h vy ms)
    (hcell : h.IsCell (L + 1) (some (.ref 68))) (hsz : ns.length + ms.length ≤ 1000) (hsee : ∀ h₀, KeyCls h₀ L C → Sees h₀ L C (cmpInfo op).2.1 (kDef i) [(Str.ofString "mycmp", L + 1)])
    (hbody : (kDef i).body = [.Return (some (.Compare (.Call (.Name (Str.ofString "mycmp") p1) [.Attribute (.Name (Str.ofString "self") p2) (Str.ofString "obj") p3, .Attribute (.Name (Str.ofString "other") p4) (Str.ofString "obj") p5] [] p6) [op] [.Constant (.int 0) 0 p7] p8)) p9])
    (hpar : (kDef i).params = ⟨[], [⟨Str.ofString "self", none, pa⟩, ⟨Str.ofString "other", none, pb⟩], none, [], [], none, []⟩) (hsc : (kDef i).scope = (kDef 3).scope)
    (hcmp : ∀ (A : Around) (E : Value → Shared → Prop) (a : Int) (u u' : Tok) (s : Shared) (Q : Value → Shared → Prop), Q (.bool (r a)) s → wpAny (model prog w) A (compareOp op (.int a u) (.int 0 u')) Q E s)
    (q : ∀ h' tk, Kp h h' → Q (.bool (r (jn ns ms))) (st s h' tk)) : wpAny (model prog w) A (richCompare op (.ref x) (.ref y)) Q E (st s h t) := by
  obtain ⟨a, vs, rfl, _⟩ := id px
  obtain ⟨b, us, rfl, _⟩ := id py
  obtain ⟨h₀, dx, k, hdx, KC, n, hxo⟩ := id hx
  obtain ⟨_, _, _, _, _, _, hyo⟩ := id hy
  generalize kDef i = d at hsee hbody hpar hsc
  obtain ⟨dp, db, ds⟩ := d
  simp only at hbody hpar hsc
  subst hbody hpar hsc
  obtain ⟨p, f, ⟨Y⟩, M⟩ := hsee _ KC
  obtain ⟨od, es, ep, hod, _⟩ := id n
  have I : PySem.W.InstAt h x { cls := .ref C, dict := some dx, data := .plain, slots := #[some (.ref a)] } C (some od) := ⟨hxo, rfl, rfl, hod⟩
  have hty : Looks (model prog w) h (typeOf (.ref y)) (.ref C) := (Looks.ld hyo).andThen .now
  refine cmp_K (s := st s h t) (by have := hA.hu; omega) (h₀ := h₀) (L := dx) ⟨n, k, hdx⟩ Y.F.into I hty (by simp [notFirst]) Y.find (by unfold isFn; rw [Y.F.tf]; simp) ?_
  refine wpAny_call (call_meth (s := s) (h := h) (hA.less (by omega)) G.lim (M.mono k) (binds := [(Str.ofString "self", .ref x), (Str.ofString "other", .ref y)]) (fun qn pm cd ct => BindsTo.of_eq (by rfl)) (fun qn pm cd ct Lf h₁ t₁ k₁ hL n₁ => ?_) (by show ∀ x ∈ (kDef 3).scope.names, _; decide) (by exact locs rfl))
  generalize hE : callEnv (mdOf (cmpInfo op).2.1 qn _ [(Str.ofString "mycmp", L + 1)] pm cd ct) Lf f = env at *
  have hA1 := hA.deeper env
  have G1 := G.mono k₁
  have e1 : env.scope.kind = .function := by rw [← hE]; rfl
  have e2 : ∀ x, env.kindOf x = (kDef 3).scope.names.lookup x := fun x => by rw [← hE]; rfl
  have e3 : env.locals = Lf := by rw [← hE]; rfl
  have e4 : env.cells.lookup (Str.ofString "mycmp") = some (L + 1) := by rw [← hE]; rfl
  refine wpAny_execs_cons (wpAny_Return_some (wpAny_Compare1 (Call_ (ev_free e4 (hcell.keeps k₁) ?_ e1 (by rw [e2]; rfl)))))
  refine ev_def G1.f68 (args_cons (Attribute_name (ev_local n₁ rfl ?_ e3 e1 (by rw [e2]; rfl))))
  refine get_key (hx.mono k₁) fun t₂ => ?_
  refine args_cons (Attribute_name (ev_local n₁ rfl ?_ e3 e1 (by rw [e2]; rfl)))
  refine get_key (hy.mono k₁) fun t₃ => args_nil ⟨Kp.refl _, ?_⟩
  refine joined_spec (hA1.less (by omega)) G1 (px.mono k₁) (py.mono k₁) hsz fun u h₂ t₄ k₂ => ?_
  refine ev_int (s := s) (h := h₂) fun u' t₅ => hcmp _ _ _ _ _ (st s h₂ t₅) _ ?_
  exact q h₂ t₅ (k₁.trans k₂)
theorem key_lt {L C x y : Addr} {vx vy : Value} {ns ms : List Int} {Q : Value → Shared → Prop} (hA : AOk 5 A) (G : Gnd h) (hx : KeyAt h L C x vx) (hy : KeyAt h L C y vy) (px : RowAt h vx ns) (py : RowAt h vy ms)
    (hcell : h.IsCell (L + 1) (some (.ref 68))) (hsz : ns.length + ms.length ≤ 1000) (q : ∀ h' tk, Kp h h' → Q (.bool (decide (jn ns ms < 0))) (st s h' tk)) : wpAny (model prog w) A (compareOp .Lt (.ref x) (.ref y)) Q E (st s h t) :=
  cmp_key (op := .Lt) (i := 3) (r := fun a => decide (a < 0)) hA G hx hy px py hcell hsz (fun _ K => K.sees.2.1) (by rfl) (by rfl) (by rfl) (fun A E a u u' s Q h => PyProof.Rows.lt_int h) q
theorem key_gt {L C x y : Addr} {vx vy : Value} {ns ms : List Int} {Q : Value → Shared → Prop} (hA : AOk 5 A) (G : Gnd h) (hx : KeyAt h L C x vx) (hy : KeyAt h L C y vy) (px : RowAt h vx ns) (py : RowAt h vy ms)
    (hcell : h.IsCell (L + 1) (some (.ref 68))) (hsz : ns.length + ms.length ≤ 1000) (q : ∀ h' tk, Kp h h' → Q (.bool (decide (0 < jn ns ms))) (st s h' tk)) : wpAny (model prog w) A (compareOp .Gt (.ref x) (.ref y)) Q E (st s h t) :=
  cmp_key (op := .Gt) (i := 4) (r := fun a => decide (0 < a)) hA G hx hy px py hcell hsz (fun _ K => K.sees.2.2.1) (by rfl) (by rfl) (by rfl) (fun A E a u u' s Q h => PyProof.Rows.gt_int h) q
theorem key_eq {L C x y : Addr} {vx vy : Value} {ns ms : List Int} {Q : Value → Shared → Prop} (hA : AOk 5 A) (G : Gnd h) (hx : KeyAt h L C x vx) (hy : KeyAt h L C y vy) (px : RowAt h vx ns) (py : RowAt h vy ms)
    (hcell : h.IsCell (L + 1) (some (.ref 68))) (hsz : ns.length + ms.length ≤ 1000) (q : ∀ h' tk, Kp h h' → Q (.bool (jn ns ms == 0)) (st s h' tk)) : wpAny (model prog w) A (compareOp .Eq (.ref x) (.ref y)) Q E (st s h t) :=
  cmp_key (op := .Eq) (i := 5) (r := fun a => a == 0) hA G hx hy px py hcell hsz (fun _ K => K.sees.2.2.2.1) (by rfl) (by rfl) (by rfl) (fun A E a u u' s Q h => PyProof.Rows.eq_int h) q
theorem key_le {L C x y : Addr} {vx vy : Value} {ns ms : List Int} {Q : Value → Shared → Prop} (hA : AOk 5 A) (G : Gnd h) (hx : KeyAt h L C x vx) (hy : KeyAt h L C y vy) (px : RowAt h vx ns) (py : RowAt h vy ms)
    (hcell : h.IsCell (L + 1) (some (.ref 68))) (hsz : ns.length + ms.length ≤ 1000) (q : ∀ h' tk, Kp h h' → Q (.bool (decide (jn ns ms ≤ 0))) (st s h' tk)) : wpAny (model prog w) A (compareOp .LtE (.ref x) (.ref y)) Q E (st s h t) :=
  cmp_key (op := .LtE) (i := 6) (r := fun a => decide (a ≤ 0)) hA G hx hy px py hcell hsz (fun _ K => K.sees.2.2.2.2.1) (by rfl) (by rfl) (by rfl) (fun A E a u u' s Q h => PyProof.Rows.le_int h) q
theorem key_ge {L C x y : Addr} {vx vy : Value} {ns ms : List Int} {Q : Value → Shared → Prop} (hA : AOk 5 A) (G : Gnd h) (hx : KeyAt h L C x vx) (hy : KeyAt h L C y vy) (px : RowAt h vx ns) (py : RowAt h vy ms)
    (hcell : h.IsCell (L + 1) (some (.ref 68))) (hsz : ns.length + ms.length ≤ 1000) (q : ∀ h' tk, Kp h h' → Q (.bool (decide (0 ≤ jn ns ms))) (st s h' tk)) : wpAny (model prog w) A (compareOp .GtE (.ref x) (.ref y)) Q E (st s h t) :=
  cmp_key (op := .GtE) (i := 7) (r := fun a => decide (0 ≤ a)) hA G hx hy px py hcell hsz (fun _ K => K.sees.2.2.2.2.2) (by rfl) (by rfl) (by rfl) (fun A E a u u' s Q h => PyProof.Rows.ge_int h) q
end
end Mine
end
section
open PySem PySem.W PyProof.Rows PySem.SeqAt
set_option maxRecDepth 100000
set_option maxHeartbeats 4000000
namespace Mine
/-- every list of h stands in h' as it was -/
abbrev KpS (h h' : Heap) : Prop := ∀ b o, (∃ vs n, o.data = .seq vs n) → h.get? b = some o → h'.get? b = some o
theorem KpS.kp {h h' : Heap} (k : Kp h h') : KpS h h' := fun b o _ e => k b o e
theorem KpS.trans {h h' h'' : Heap} (x : KpS h h') (y : KpS h' h'') : KpS h h'' := fun b o c e => y b o c (x b o c e)
theorem KpS.b {S : List Addr} {h h' : Heap} (k : KpB S h h') (hS : ∀ b ∈ S, ∀ o, h.get? b = some o → ∀ vs n, o.data ≠ .seq vs n) : KpS h h' := fun b o ⟨vs, n, c⟩ e => k b o (fun m => hS b m o e vs n c) e
theorem KpS.ns {h h' : Heap} {L : Addr} {m : Str → Option Value} (n : h.Ns L m) (k : KpB [L] h h') : KpS h h' := KpS.b k fun b hb o e vs c d => by
  rw [List.mem_singleton.mp hb] at e
  obtain ⟨o', _, _, e', d', _⟩ := n
  rw [e] at e'; cases e'; rw [d] at d'; cases d'
theorem KpS.cell {h h' : Heap} {c : Addr} {v : Option Value} (n : h.IsCell c v) (k : KpB [c] h h') : KpS h h' := KpS.b k fun b hb o e vs c d => by
  rw [List.mem_singleton.mp hb] at e
  obtain ⟨o', e', d'⟩ := n
  rw [e] at e'; cases e'; rw [d] at d'; cases d'
theorem plainS {h h' : Heap} {a : Addr} {vs : Array Value} (k : KpS h h') (x : h.PlainList a vs) : h'.PlainList a vs := x.at fun o e => k _ o (by
  obtain ⟨n, e'⟩ := x
  rw [e] at e'; cases e'; exact ⟨_, _, rfl⟩) e
theorem RowAt.monoS {h h' : Heap} {v : Value} {ns : List Int} (k : KpS h h') : RowAt h v ns → RowAt h' v ns
  | ⟨a, vs, e, hl, hi⟩ => ⟨a, vs, e, plainS k hl, hi⟩
theorem paired_fn {F : Nat → Value → Prop} {n : Nat} {ys : List Value} (P : Paired F (List.range n) ys) : ∃ f : Nat → Value, ys = (List.range n).map f ∧ ∀ i, i < n → F i (f i) := by
  have hl := P.length
  rw [List.length_range] at hl
  refine ⟨fun i => ys.getD i .none, ?_, fun i hi => ?_⟩
  · refine List.ext_getElem (by simp [hl]) fun i h1 h2 => ?_
    simp [h1]
  · obtain ⟨b, hb, hF⟩ := paired_get P (show (List.range n)[i]? = some i by simp [hi])
    have : ys.getD i .none = b := by rw [List.getD_eq_getElem?_getD, hb]; rfl
    show F i (ys.getD i .none)
    rw [this]; exact hF
theorem pick_fn {α : Type} [i : Inhabited α] {n : Nat} {P : Nat → α → Prop} (h : ∀ i, i < n → ∃ x, P i x) : ∃ f : Nat → α, ∀ i, i < n → P i (f i) := by
  have hh : ∀ i, ∃ x, i < n → P i x := fun i => by
    by_cases hi : i < n
    · obtain ⟨x, hx⟩ := h i hi; exact ⟨x, fun _ => hx⟩
    · exact ⟨default, fun z => absurd z hi⟩
  exact ⟨fun i => Classical.choose (hh i), fun i hi => Classical.choose_spec (hh i) hi⟩
section
variable {prog : Program} {w : World} {M : Model} {A : Around} {E : Value → Shared → Prop} {R : Result → Shared → Prop} {s : Shared} {h : Heap} {t : Nat} {env : Env}
/-- the source is a list -/
theorem Src.list {scope : Scope} {cl : List (Str × Addr)} {x : Str} {px : Pos} {ifs : List Expr} {elt : Expr} {I a : Addr} {vs : List Value} {p : Nat → Bool} {G : (Addr → Prop) → Nat → Value → Heap → Prop}
    (hA : A.handled = none) (haI : a ≠ I) (hI : h.IsListIter I a 0) (hl : h.IsList a vs.toArray) (hn : vs.length ≤ 1000)
    (hG : ∀ good i y h h', (∀ b o, good b → h.get? b = some o → h'.get? b = some o) → G good i y h → G good i y h') (hGT : ∀ (good good' : Addr → Prop) i y h, (∀ b, good b → good' b) → G good i y h → G good' i y h)
    (hT : Turn prog w A s env scope cl x px ifs elt [I] vs.length (fun i v => vs[i]? = some v) p G h) : Src prog w A s env scope cl x px ifs elt I [I] vs.length p G h := by
  have W := Walks.list (prog := prog) (w := w) (A := A) hA I a haI vs.toArray
  have e : (fun (i : Nat) (v : Value) => vs.toArray[i]? = some v) = (fun (i : Nat) (v : Value) => vs[i]? = some v) := by funext i v; simp
  rw [List.size_toArray] at W
  rw [e] at W
  refine ⟨⟨_, _, _, W, ⟨hI, hl⟩, fun i h st b hb => ?_, fun b hb => ?_, hT⟩, hn, hG, hGT⟩
  · rw [List.mem_singleton.mp hb]; obtain ⟨o, e, _⟩ := st.1; exact ⟨o, e⟩
  · rcases List.mem_cons.mp hb with rfl | hb
    · obtain ⟨o, e, _⟩ := hI; exact ⟨o, e⟩
    · rw [List.mem_singleton.mp hb]; obtain ⟨o, e, _⟩ := hl; exact ⟨o, e⟩
/-- y = [elt for x in a list], the store told apart -/
theorem comp_asg {elt iter : Expr} {x y : Str} {px py : Pos} {scope : Scope} {cl : List (Str × Addr)} {pos spos : Pos} {G : (Addr → Prop) → Nat → Value → Heap → Prop} {Q : Flow → Shared → Prop}
    (hA : A.handled = none)
    (hG : ∀ good i y h h', (∀ b o, good b → h.get? b = some o → h'.get? b = some o) → G good i y h → G good i y h') (hGT : ∀ (good good' : Addr → Prop) i y h, (∀ b, good b → good' b) → G good i y h → G good' i y h)
    (X : wpAny (model prog w) A (eval iter env) (fun xv s₁ => ∃ a vs h₁ t₁, xv = .ref a ∧ s₁ = st s h₁ t₁ ∧ h₁.IsList a (vs : List Value).toArray ∧ vs.length ≤ 1000 ∧
      (∀ I h₂, Kp h₁ h₂ → h₁.get? I = none → Turn prog w A s env scope cl x px [] elt [I] vs.length (fun i v => vs[i]? = some v) (fun _ => true) G h₂) ∧
      ∀ D C f h' t', Kp h₁ h' → h₁.get? D = none → h₁.get? C = none → D ≠ C → h'.PlainList D ((List.range vs.length).map f).toArray → (∀ i, i < vs.length → G (fun b => b ≠ C) i (f i) h') →
      wpAny (model prog w) A (assign (.Name y py) env (.ref D)) (fun _ s'' => ∃ h'' t'', s'' = st s h'' t'' ∧ (∀ m, h'.Ns C m → h''.Ns C m) ∧ ∀ h₃, Heap.SameBut C h'' h₃ → Q .next (st s h₃ t'')) E (st s h' t')) E (st s h t))
    (hsw : swapsWith (.ListComp elt [⟨.Name x px, iter, [], 0⟩] scope pos) (some (.Name y py)) spos.line env = pure true := by rfl)
    (hclos : closureFor scope env = pure cl := by rfl) (hkind : scope.kind = .function := by rfl) (hnames : ∀ y ∈ scope.names, y.2 = .local → scope.names.lookup y.1 = some .local := by decide)
    (hs : ∀ x, foldedSetIterable iter env x = pure x := by intro _; rfl) :
    wpAny (model prog w) A (exec (.Assign [.Name y py] (.ListComp elt [⟨.Name x px, iter, [], 0⟩] scope pos) spos) env) Q E (st s h t) := by
  refine ev_compAssign (wpAny_mono X (fun xv s₁ X => ?_) fun _ _ e => e) hsw hclos hkind hnames hs
  obtain ⟨a, vs, h₁, t₁, rfl, rfl, hl, hn, hT, q⟩ := X
  refine it_list hl fun I h₂ k₂ hI i₂ => ?_
  refine ⟨I, [I], vs.length, fun _ => true, G, h₂, _, rfl, rfl, Src.list hA (iter_ne hl hI) i₂ (isList_kp k₂ hl) hn hG hGT (hT I h₂ k₂ hI), fun D C h' t' hD hC hDC M kb => ?_⟩
  obtain ⟨ys, l, P⟩ := M
  rw [filter_true] at P
  obtain ⟨f, rfl, hf⟩ := paired_fn P
  exact q D C f h' t' (KpB.kp k₂ kb (by simpa using hI)) (none_of_kp k₂ hD) (none_of_kp k₂ hC) hDC l hf
theorem comp_local {elt iter : Expr} {x y : Str} {px py : Pos} {scope : Scope} {cl : List (Str × Addr)} {pos spos : Pos} {L : Addr} {m : Str → Option Value} {G : (Addr → Prop) → Nat → Value → Heap → Prop} {Q : Flow → Shared → Prop}
    (hA : A.handled = none)
    (hG : ∀ good i y h h', (∀ b o, good b → h.get? b = some o → h'.get? b = some o) → G good i y h → G good i y h') (hGT : ∀ (good good' : Addr → Prop) i y h, (∀ b, good b → good' b) → G good i y h → G good' i y h)
    (hGS : ∀ good i y h h', KpS h h' → G good i y h → G good i y h')
    (X : wpAny (model prog w) A (eval iter env) (fun xv s₁ => ∃ a vs h₁ t₁, xv = .ref a ∧ s₁ = st s h₁ t₁ ∧ h₁.Ns L m ∧ h₁.IsList a (vs : List Value).toArray ∧ vs.length ≤ 1000 ∧
      (∀ I h₂, Kp h₁ h₂ → h₁.get? I = none → Turn prog w A s env scope cl x px [] elt [I] vs.length (fun i v => vs[i]? = some v) (fun _ => true) G h₂) ∧
      ∀ D f h' t', KpB [L] h₁ h' → h₁.get? D = none → h'.PlainList D ((List.range vs.length).map f).toArray → (∀ i, i < vs.length → G (fun _ => True) i (f i) h') → h'.Ns L (fun z => if z = y then some (.ref D) else m z) → Q .next (st s h' t')) E (st s h t))
    (hL : env.locals = L := by rfl) (hky : env.kindOf y = some .local := by rfl) (hp : (env.scope.kind == .class || (env.scope.kind == .module && env.locals != env.globals)) = false := by rfl)
    (hsw : swapsWith (.ListComp elt [⟨.Name x px, iter, [], 0⟩] scope pos) (some (.Name y py)) spos.line env = pure true := by rfl)
    (hclos : closureFor scope env = pure cl := by rfl) (hkind : scope.kind = .function := by rfl) (hnames : ∀ y ∈ scope.names, y.2 = .local → scope.names.lookup y.1 = some .local := by decide)
    (hs : ∀ x, foldedSetIterable iter env x = pure x := by intro _; rfl) :
    wpAny (model prog w) A (exec (.Assign [.Name y py] (.ListComp elt [⟨.Name x px, iter, [], 0⟩] scope pos) spos) env) Q E (st s h t) := by
  refine comp_asg hA hG hGT (wpAny_mono X (fun xv s₁ X => ?_) fun _ _ e => e) hsw hclos hkind hnames hs
  obtain ⟨a, vs, h₁, t₁, rfl, rfl, n, hl, hn, hT, q⟩ := X
  refine ⟨a, vs, h₁, t₁, rfl, rfl, hl, hn, hT, fun D C f h' t' k hD hC hDC l g => ?_⟩
  have n' := n.keeps k
  refine wpAny_assign_Name (st_local n' (fun h'' n'' b'' => ?_) hL hky hp)
  have hCL : C ≠ L := (ns_ne n hC).symm
  have hDL : D ≠ L := (ns_ne n hD).symm
  refine ⟨h'', _, rfl, fun m nc => nc.sameBut b'' hCL, fun h₃ b₃ => ?_⟩
  have l'' := l.extBut b''.extBut hDL
  have l₃ := l''.extBut b₃.extBut hDC
  refine q D f h₃ _ (fun b o hb e => (b₃.2 b (ne_of_none e hC)).trans ((b''.2 b (by simpa using hb)).trans (k _ _ e))) hD l₃ (fun i hi => ?_) (n''.sameBut b₃ hCL.symm)
  have g1 := hGS _ i _ _ _ (KpS.ns n' (KpB.same b'')) (g i hi)
  exact hGT _ _ _ _ _ (fun _ _ => trivial) (hG _ _ _ _ _ (fun b o hb e => (b₃.2 b hb).trans e) g1)
theorem comp_cell {elt iter : Expr} {x y : Str} {px py : Pos} {scope : Scope} {cl : List (Str × Addr)} {pos spos : Pos} {c : Addr} {v : Option Value} {G : (Addr → Prop) → Nat → Value → Heap → Prop} {Q : Flow → Shared → Prop}
    (hA : A.handled = none)
    (hG : ∀ good i y h h', (∀ b o, good b → h.get? b = some o → h'.get? b = some o) → G good i y h → G good i y h') (hGT : ∀ (good good' : Addr → Prop) i y h, (∀ b, good b → good' b) → G good i y h → G good' i y h)
    (hGS : ∀ good i y h h', KpS h h' → G good i y h → G good i y h')
    (X : wpAny (model prog w) A (eval iter env) (fun xv s₁ => ∃ a vs h₁ t₁, xv = .ref a ∧ s₁ = st s h₁ t₁ ∧ h₁.IsCell c v ∧ h₁.IsList a (vs : List Value).toArray ∧ vs.length ≤ 1000 ∧
      (∀ I h₂, Kp h₁ h₂ → h₁.get? I = none → Turn prog w A s env scope cl x px [] elt [I] vs.length (fun i v => vs[i]? = some v) (fun _ => true) G h₂) ∧
      ∀ D f h' t', KpB [c] h₁ h' → h₁.get? D = none → h'.PlainList D ((List.range vs.length).map f).toArray → (∀ i, i < vs.length → G (fun _ => True) i (f i) h') → h'.IsCell c (some (.ref D)) → Q .next (st s h' t')) E (st s h t))
    (hc : env.cells.lookup y = some c := by rfl) (hky : env.kindOf y = some .cell := by rfl) (hke : env.scope.kind = .function := by rfl)
    (hsw : swapsWith (.ListComp elt [⟨.Name x px, iter, [], 0⟩] scope pos) (some (.Name y py)) spos.line env = pure false := by rfl)
    (hclos : closureFor scope env = pure cl := by rfl) (hkind : scope.kind = .function := by rfl) (hnames : ∀ y ∈ scope.names, y.2 = .local → scope.names.lookup y.1 = some .local := by decide)
    (hs : ∀ x, foldedSetIterable iter env x = pure x := by intro _; rfl) :
    wpAny (model prog w) A (exec (.Assign [.Name y py] (.ListComp elt [⟨.Name x px, iter, [], 0⟩] scope pos) spos) env) Q E (st s h t) := by
  refine wpAny_Assign_Name (ev_comp (wpAny_mono X (fun xv s₁ X => ?_) fun _ _ e => e) hclos hkind hnames hs) hsw
  obtain ⟨a, vs, h₁, t₁, rfl, rfl, n, hl, hn, hT, q⟩ := X
  refine it_list hl fun I h₂ k₂ hI i₂ => ?_
  refine ⟨I, [I], vs.length, fun _ => true, G, h₂, _, rfl, rfl, Src.list hA (iter_ne hl hI) i₂ (isList_kp k₂ hl) hn hG hGT (hT I h₂ k₂ hI), fun D h' t' hD M kb => ?_⟩
  obtain ⟨ys, l, P⟩ := M
  rw [filter_true] at P
  obtain ⟨f, rfl, hf⟩ := paired_fn P
  have k : Kp h₁ h' := KpB.kp k₂ kb (by simpa using hI)
  have n' := n.keeps k
  refine wpAny_storeName_cell (s := st s h' t') hke hky hc n' fun h'' n'' b'' => ?_
  have hDc : D ≠ c := by
    obtain ⟨o, e, _⟩ := n; exact (ne_of_none e (none_of_kp k₂ hD)).symm
  refine q D f h'' _ (fun b o hb e => (b''.2 b (by simpa using hb)).trans (k _ _ e)) (none_of_kp k₂ hD) (l.extBut b''.extBut hDc) (fun i hi => hGS _ i _ _ _ (KpS.cell n' (KpB.same b'')) (hf i hi)) n''
end
end Mine
end
section
open PySem PySem.W PyProof.Rows PySem.SeqAt
set_option maxRecDepth 100000
set_option maxHeartbeats 4000000
namespace Mine
/-- the law's frame -/
abbrev lawEnv (doc pm cd : Value) (L : Addr) : Env := callEnvC (fdOf (Str.ofString "law") (dpAt 12) .none doc pm cd) L 73
/-- the law's statement i -/
def lst (i : Nat) : Stmt := (dpAt 12).body.getD i (.Pass default)
/-- a row whose object is none of the bad ones -/
def RowG (good : Addr → Prop) (h : Heap) (v : Value) (ns : List Int) : Prop := ∃ a vs, v = .ref a ∧ good a ∧ h.PlainList a vs.toArray ∧ IntsAre vs ns
theorem RowG.row {good : Addr → Prop} {h : Heap} {v : Value} {ns : List Int} : RowG good h v ns → RowAt h v ns | ⟨a, vs, e, _, l, i⟩ => ⟨a, vs, e, l, i⟩
theorem RowG.up {good : Addr → Prop} {h h' : Heap} {v : Value} {ns : List Int} (k : ∀ b o, good b → h.get? b = some o → h'.get? b = some o) : RowG good h v ns → RowG good h' v ns | ⟨a, vs, e, g, l, i⟩ => ⟨a, vs, e, g, l.at fun o e => k _ o g e, i⟩
theorem RowG.upS {good : Addr → Prop} {h h' : Heap} {v : Value} {ns : List Int} (k : KpS h h') : RowG good h v ns → RowG good h' v ns | ⟨a, vs, e, g, l, i⟩ => ⟨a, vs, e, g, plainS k l, i⟩
theorem RowG.top {good good' : Addr → Prop} {h : Heap} {v : Value} {ns : List Int} (k : ∀ b, good b → good' b) : RowG good h v ns → RowG good' h v ns | ⟨a, vs, e, g, l, i⟩ => ⟨a, vs, e, k _ g, l, i⟩
section
variable {prog : Program} {w : World} {M : Model} {A : Around} {E : Value → Shared → Prop} {R : Result → Shared → Prop} {s : Shared} {h : Heap} {t : Nat} {env : Env}
/-- the numbers that the rows are made of -/
def seeds (ns : List Int) : List Int := ns.take 5 ++ [43, 9, 5].drop ns.length
theorem law_rows {doc pm cd : Value} {L a : Addr} {m : Str → Option Value} {vs : List Value} {ns : List Int} {Q : Flow → Shared → Prop} (hA : AOk 4 A) (G : Gnd h) (n : h.Ns L m) (hm : m (Str.ofString "script") = some (.ref a)) (hl : h.IsList a vs.toArray) (hi : IntsAre vs ns) (hsz : vs.length ≤ 100)
    (q : ∀ D f h' t', KpB [L] h h' → h.get? D = none → h'.PlainList D ((List.range (seeds ns).length).map f).toArray → (∀ i, i < (seeds ns).length → RowAt h' (f i) (rowOf ((seeds ns).getD i 0))) → h'.Ns L (fun z => if z = Str.ofString "rows" then some (.ref D) else m z) → Q .next (st s h' t')) :
    wpAny (model prog w) A (exec (lst 0) (lawEnv doc pm cd L)) Q E (st s h t) := by
  have hlen := hi.length
  refine comp_local (L := L) (m := m) (y := Str.ofString "rows") (G := fun good i y h => RowG good h y (rowOf ((seeds ns).getD i 0))) hA.hh (fun _ _ _ _ _ k g => g.up k) (fun _ _ _ _ _ k g => g.top k) (fun _ _ _ _ _ k g => g.upS k) ?_
  refine wpAny_BinOp (ev_upto (ev_local n hm (ev_int fun u₁ t₁ => ⟨a, vs, 5, u₁, h, t₁, rfl, rfl, rfl, hl, by omega, fun r₁ h₁ k₁ hr₁ l₁ => ?_⟩)))
  refine ev_from (List_ (args_cons (ev_int fun u₂ t₂ => args_cons (ev_int fun u₃ t₃ => args_cons (ev_int fun u₄ t₄ => args_nil (ev_newList fun r₂ h₂ k₂ hr₂ l₂ => ?_))))))
  have k02 := k₁.trans k₂
  refine ev_bi1 (G.mono k02) boot_len (ev_local (n.keeps k02) hm (do_len (isList_kp k02 hl) (by omega) fun u₅ t₅ => ⟨r₂, _, vs.length, u₅, h₂, t₅, rfl, rfl, rfl, l₂.isList, by simp, fun r₃ h₃ k₃ hr₃ l₃ => ?_⟩))
  refine do_add (plain_kp (k₂.trans k₃) l₁) l₃ (by simp; omega) fun r₄ h₄ k₄ hr₄ l₄ => ?_
  have k04 := (k02.trans k₃).trans k₄
  have hints : IntsAre (vs.take 5 ++ [Value.int 43 u₂, .int 9 u₃, .int 5 u₄].drop vs.length) (seeds ns) := by
    refine (hi.take 5).append ?_
    rw [hlen]
    exact (IntsAre.cons 43 u₂ (.cons 9 u₃ (.cons 5 u₄ .nil))).drop _
  have hlx := hints.length
  refine ⟨r₄, _, h₄, _, rfl, rfl, n.keeps k04, l₄.isList, by rw [hlx]; unfold seeds; simp; omega, fun I h₅ k₅ hI => Turn.plain ?_, fun D f h' t' kb hD l g n' => ?_⟩
  · rintro good C i v h₆ t₆ E' m' g1 g2 hC hi' hv kb n₆ hm'
    obtain ⟨x, hx⟩ : ∃ x, (seeds ns)[i]? = some x := ⟨(seeds ns)[i]'(by rw [← hlx]; exact hi'), by simp⟩
    obtain ⟨ut, hut⟩ := hints.get i x hx
    rw [hut] at hv
    cases hv
    have k6 : Kp h h₆ := KpB.kp (k04.trans k₅) kb (by simpa using none_of_kp k04 hI)
    refine ev_call1 (G.mono k6) (G.mono k6).f49 (ev_local n₆ hm' ⟨Kp.refl _, row_spec (hA.less (by omega)) (G.mono k6) fun r h' tk k' hr R' => ⟨h', tk, rfl, k', ?_⟩⟩)
    obtain ⟨ra, rvs, e, rl, ri⟩ := R'
    cases e
    have : (seeds ns).getD i 0 = x := by rw [List.getD_eq_getElem?_getD, hx]; rfl
    rw [this]
    exact ⟨r, rvs, rfl, g2 r hr, rl, ri⟩
  · rw [hlx] at l g
    exact q D f h' t' (fun b o hb e => kb b o hb (k04 _ _ e)) (none_of_kp k04 hD) l (fun i hi' => (g i hi').row) n'
end
end Mine
end
section
open PySem PySem.W PyProof.Rows PySem.SeqAt
set_option maxRecDepth 100000
set_option maxHeartbeats 4000000
namespace Mine
def rot (i : Nat) (ns : List Int) : List Int := ns.drop i ++ ns.take i
/-- a row's turnings -/
def rots (ns : List Int) : List (List Int) := (List.range ns.length).map fun i => rot i ns
/-- a list of rows -/
def RowsG (good : Addr → Prop) (h : Heap) (y : Value) (ps : List (Value × List Int)) : Prop := ∃ b, y = .ref b ∧ good b ∧ h.PlainList b (ps.map (·.1)).toArray ∧ ∀ p ∈ ps, RowG good h p.1 p.2
theorem RowsG.up {good : Addr → Prop} {h h' : Heap} {v : Value} {ps : List (Value × List Int)} (k : ∀ b o, good b → h.get? b = some o → h'.get? b = some o) : RowsG good h v ps → RowsG good h' v ps
  | ⟨b, e, g, l, r⟩ => ⟨b, e, g, l.at fun o e => k _ o g e, fun p hp => (r p hp).up k⟩
theorem RowsG.upS {good : Addr → Prop} {h h' : Heap} {v : Value} {ps : List (Value × List Int)} (k : KpS h h') : RowsG good h v ps → RowsG good h' v ps
  | ⟨b, e, g, l, r⟩ => ⟨b, e, g, plainS k l, fun p hp => (r p hp).upS k⟩
theorem RowsG.top {good good' : Addr → Prop} {h : Heap} {v : Value} {ps : List (Value × List Int)} (k : ∀ b, good b → good' b) : RowsG good h v ps → RowsG good' h v ps
  | ⟨b, e, g, l, r⟩ => ⟨b, e, k _ g, l, fun p hp => (r p hp).top k⟩
section
variable {prog : Program} {w : World} {M : Model} {A : Around} {E : Value → Shared → Prop} {R : Result → Shared → Prop} {s : Shared} {h : Heap} {t : Nat} {env : Env}
/-- the turn of a comprehension whose target is captured -/
theorem Turn.cell {scope : Scope} {cl : List (Str × Addr)} {x : Str} {px : Pos} {elt : Expr} {wr : List Addr} {n : Nat} {P : Nat → Value → Prop} {G : (Addr → Prop) → Nat → Value → Heap → Prop} {h₂ : Heap} (cx : Addr → Addr) (hcx : ∀ C, cx C ∈ cAddrs C scope)
    (q : ∀ (good : Addr → Prop) (C : Addr) (i : Nat) (v : Value) (h₄ : Heap) (t₄ : Nat) (E' : Value → Shared → Prop), (∀ b o, b ∉ wr → h₂.get? b = some o → good b) → (∀ b, h₄.get? b = none → good b) → h₂.get? C = none →
      i < n → P i v → KpB wr h₂ h₄ → h₄.IsCell (cx C) (some v) →
      wpAny (model prog w) A (eval elt (compEnvC scope (cellsFrom (C + 1) scope.names cl) C env)) (fun y s₆ => ∃ h₆ t₆, s₆ = st s h₆ t₆ ∧ Kp h₄ h₆ ∧ G good i y h₆) E' (st s h₄ t₄))
    (hc : ∀ C, (compEnvC scope (cellsFrom (C + 1) scope.names cl) C env).cells.lookup x = some (cx C)) (hl : ∀ C, (compEnvC scope (cellsFrom (C + 1) scope.names cl) C env).kindOf x = some .cell := by intro _; rfl)
    (hk : ∀ C, (compEnvC scope (cellsFrom (C + 1) scope.names cl) C env).scope.kind = .function := by intro _; rfl) :
    Turn prog w A s env scope cl x px [] elt wr n P (fun _ => true) G h₂ := by
  intro good C i v h₃ t₃ E' g1 g2 hC hcs hi hP kb cs
  obtain ⟨⟨m, n₃⟩, cc⟩ := id cs
  obtain ⟨v0, c0⟩ := cc _ (hcx C)
  refine wpAny_assign_Name (wpAny_storeName_cell (s := st s h₃ t₃) (hk C) (hl C) (hc C) c0 fun h₄ c₄ b₄ => ?_)
  have k34 : KpB (C :: cAddrs C scope) h₃ h₄ := (KpB.same b₄).more (by simp [hcx C])
  have hne : cx C ≠ C := (hcs _ (hcx C)).2
  have cs₄ : CS C scope h₄ := ⟨⟨_, n₃.sameBut b₄ hne.symm⟩, fun c hc => by
    by_cases e : c = cx C
    · exact ⟨_, e ▸ c₄⟩
    · obtain ⟨v, o, e', d⟩ := cc c hc
      exact ⟨v, o, b₄.extBut c o e e', d⟩⟩
  have kb₄ : KpB wr h₂ h₄ := fun b o hb e => k34 b o (fun hm => by
    rcases List.mem_cons.mp hm with rfl | hm
    · rw [hC] at e; cases e
    · rw [(hcs b hm).1] at e; cases e) (kb b o hb e)
  refine ⟨h₄, _, rfl, k34, cs₄, ?_⟩
  rw [List.forIn_nil]
  refine wpAny_pure ⟨rfl, h₄, _, rfl, Kp.refl _, fun _ => q good C i v h₄ _ E' g1 (fun b e => g2 b ?_) hC hi hP kb₄ c₄⟩
  cases e' : h₃.get? b with
  | none => rfl
  | some o =>
    by_cases hm : b ∈ C :: cAddrs C scope
    · obtain ⟨o', z⟩ := cs₄.some b hm
      rw [e] at z; cases z
    · rw [k34 b o hm e'] at e; cases e
theorem law_turned {doc pm cd : Value} {L a : Addr} {v₀ : Option Value} {m : Str → Option Value} {k : Nat} {f : Nat → Value} {N : Nat → List Int} {Q : Flow → Shared → Prop} (hA : AOk 4 A) (G : Gnd h) (n : h.Ns L m) (hc : h.IsCell (L + 2) v₀) (hm : m (Str.ofString "rows") = some (.ref a)) (hl : h.PlainList a ((List.range k).map f).toArray)
    (hf : ∀ i, i < k → RowAt h (f i) (N i)) (hN : ∀ i, i < k → (N i).length ≤ 30) (hsz : k ≤ 100)
    (q : ∀ D g (ps : Nat → List (Value × List Int)) h' t', KpB [L + 2] h h' → h.get? D = none → h'.PlainList D ((List.range k).map g).toArray → (∀ i, i < k → RowsG (fun _ => True) h' (g i) (ps i) ∧ (ps i).map (·.2) = rots (N i)) → h'.IsCell (L + 2) (some (.ref D)) → Q .next (st s h' t')) :
    wpAny (model prog w) A (exec (lst 1) (lawEnv doc pm cd L)) Q E (st s h t) := by
  refine comp_cell (c := L + 2) (v := v₀) (y := Str.ofString "turned") (G := fun good i y h => ∃ ps, RowsG good h y ps ∧ ps.map (·.2) = rots (N i)) hA.hh (fun _ _ _ _ _ k ⟨ps, g, e⟩ => ⟨ps, g.up k, e⟩) (fun _ _ _ _ _ k ⟨ps, g, e⟩ => ⟨ps, g.top k, e⟩) (fun _ _ _ _ _ k ⟨ps, g, e⟩ => ⟨ps, g.upS k, e⟩) ?_
  have hlen : ((List.range k).map f).length = k := by simp
  refine ev_local n hm ⟨a, _, h, _, rfl, rfl, hc, hl.isList, by simp; omega, fun I h₁ k₁ hI => Turn.cell (fun C => C + 1) (fun C => by show C + 1 ∈ [C + 1]; simp) ?_ (fun C => by rfl), fun D g h' t' kb hD l gg c' => ?_⟩
  · rintro good C i v h₂ t₂ E' g1 g2 hC hi hv kb cx
    rw [hlen] at hi
    have hv' : f i = v := by simpa [hi] using hv
    subst hv'
    have k2 : Kp h h₂ := KpB.kp k₁ kb (by simpa using hI)
    have R2 := (hf i hi).mono k2
    have hNi := hN i hi
    refine ev_comp' (by rfl) ?_
    refine ev_type1 (G.mono k2) boot_range (ev_bi1 (G.mono k2) boot_len (ev_cell (c := C + 1) (by rfl) cx (row_len R2 (by omega) fun u₁ t₁ => ?_)))
    refine do_range1 (s := s) (h := h₂) fun r h₃ t₃ ta tb tc k₃ hr Rg => ?_
    refine it_range Rg (by omega) (by omega) (by omega) fun J h₄ k₄ hJ i₄ => ?_
    have en : ((N i).length : Int).toNat = (N i).length := by omega
    rw [Int.sub_zero, en] at i₄
    have k24 := k₃.trans k₄
    refine ⟨J, [J], (N i).length, fun _ => true, fun good' j y h => RowG (fun b => good' b ∧ h₂.get? b = none) h y (rot j (N i)), h₄, _, rfl, rfl, Src.range hA.hh i₄ (by omega) (fun _ _ _ _ _ k g => g.up fun b o hb e => k b o hb.1 e) (fun _ _ _ _ _ k g => g.top fun b hb => ⟨k b hb.1, hb.2⟩) (Turn.plain ?_), ?_⟩
    · rintro good' C' j vj h₅ t₅ E'' m' g1' g2' hC' hj ⟨tv, rfl⟩ kb' n₅ hm'
      have hp : (0 : Int) + (j : Int) * 1 = (j : Int) := by omega
      rw [hp] at hm'
      have hJ2 : h₂.get? J = none := none_of_kp k₃ hJ
      have k25 : Kp h₂ h₅ := KpB.kp k24 kb' (by simpa using hJ2)
      have c5 : h₅.IsCell (C + 1) (some (f i)) := cx.keeps k25
      obtain ⟨xa, xs, hfi, hxl, hxi⟩ := R2.mono k25
      rw [hfi] at c5
      have hxlen := hxi.length
      refine wpAny_BinOp (ev_from (ev_cell (c := C + 1) (by rfl) c5 (ev_local n₅ hm' ⟨xa, xs, j, _, h₅, _, rfl, rfl, rfl, hxl.isList, by omega, fun r₁ h₆ k₆ hr₁ l₆ => ?_⟩)))
      refine ev_upto (ev_cell (c := C + 1) (by rfl) (c5.keeps k₆) (ev_local (n₅.keeps k₆) hm' ⟨xa, xs, j, _, h₆, _, rfl, rfl, rfl, (plain_kp k₆ hxl).isList, by omega, fun r₂ h₇ k₇ hr₂ l₇ => ?_⟩))
      refine do_add (plain_kp k₇ l₆) l₇ (by simp; omega) fun r₃ h₈ k₈ hr₃ l₈ => ?_
      have k58 := (k₆.trans k₇).trans k₈
      have hr5 : h₅.get? r₃ = none := none_of_kp (k₆.trans k₇) hr₃
      exact ⟨h₈, _, rfl, k58, r₃, _, rfl, ⟨g2' r₃ hr5, none_of_kp k25 hr5⟩, l₈, (hxi.drop j).append (hxi.take j)⟩
    · intro D h' t' hD M kb'
      obtain ⟨ys, l, P⟩ := M
      rw [filter_true] at P
      obtain ⟨g, rfl, hg⟩ := paired_fn P
      have hJ2 : h₂.get? J = none := none_of_kp k₃ hJ
      refine ⟨h', t', rfl, KpB.kp k24 kb' (by simpa using hJ2), (List.range (N i).length).map fun j => (g j, rot j (N i)), ⟨D, rfl, g2 D (none_of_kp k24 hD), ?_, ?_⟩, ?_⟩
      · rw [List.map_map]; exact l
      · intro p hp
        obtain ⟨j, hj, rfl⟩ := List.mem_map.mp hp
        exact (hg j (List.mem_range.mp hj)).top fun b hb => g2 b hb.2
      · rw [List.map_map]; rfl
  · rw [hlen] at l gg
    obtain ⟨ps, hps⟩ := pick_fn gg
    exact q D g ps h' t' kb hD l hps c'
end
end Mine
end
section
open PySem PySem.W PyProof.Rows PySem.SeqAt
set_option maxRecDepth 100000
set_option maxHeartbeats 4000000
namespace Mine
def d0 : Value × List Int := (.none, [])
theorem RowsG.list {good : Addr → Prop} {h : Heap} {y : Value} {ps : List (Value × List Int)} (x : RowsG good h y ps) : ∃ b, y = .ref b ∧ h.PlainList b (ps.map (·.1)).toArray ∧ ∀ p ∈ ps, RowAt h p.1 p.2 := by
  obtain ⟨b, e, _, l, r⟩ := x
  exact ⟨b, e, l, fun p hp => (r p hp).row⟩
section
variable {prog : Program} {w : World} {M : Model} {A : Around} {E : Value → Shared → Prop} {R : Result → Shared → Prop} {s : Shared} {h : Heap} {t : Nat} {env : Env}
theorem law_once {doc pm cd : Value} {L a : Addr} {v₀ : Option Value} {m : Str → Option Value} {k : Nat} {g : Nat → Value} {ps : Nat → List (Value × List Int)} {Q : Flow → Shared → Prop} (hA : AOk 4 A) (G : Gnd h) (n : h.Ns L m) (ct : h.IsCell (L + 2) (some (.ref a))) (hc : h.IsCell (L + 3) v₀) (hl : h.PlainList a ((List.range k).map g).toArray)
    (hg : ∀ i, i < k → RowsG (fun _ => True) h (g i) (ps i)) (hps : ∀ i, i < k → (ps i).length ≤ 30) (hsz : k ≤ 100)
    (q : ∀ D (o : Nat → Addr) h' t', KpB [L + 3] h h' → h.get? D = none → h'.PlainList D ((List.range k).map fun i => Value.ref (o i)).toArray → (∀ i, i < k → h'.PlainList (o i) ((dd (ps i)).map (·.1)).toArray) → h'.IsCell (L + 3) (some (.ref D)) → Q .next (st s h' t')) :
    wpAny (model prog w) A (exec (lst 2) (lawEnv doc pm cd L)) Q E (st s h t) := by
  refine comp_cell (c := L + 3) (v := v₀) (y := Str.ofString "once") (G := fun (good : Addr → Prop) (i : Nat) (y : Value) (h : Heap) => ∃ b : Addr, y = .ref b ∧ good b ∧ h.PlainList b ((dd (ps i)).map (fun p : Value × List Int => p.1)).toArray) hA.hh (fun _ _ _ _ _ k ⟨b, e, gb, l⟩ => ⟨b, e, gb, l.at fun o e => k _ o gb e⟩) (fun _ _ _ _ _ k ⟨b, e, gb, l⟩ => ⟨b, e, k _ gb, l⟩) (fun _ _ _ _ _ k ⟨b, e, gb, l⟩ => ⟨b, e, gb, plainS k l⟩) ?_
  have hlen : ((List.range k).map g).length = k := by simp
  refine ev_cell (c := L + 2) (by rfl) ct ⟨a, _, h, _, rfl, rfl, hc, hl.isList, by simp; omega, fun I h₁ k₁ hI => Turn.plain ?_, fun D f h' t' kb hD l gg c' => ?_⟩
  · rintro good C i v h₂ t₂ E' m' g1 g2 hC hi hv kb n₂ hm'
    rw [hlen] at hi
    have hv' : g i = v := by simpa [hi] using hv
    subst hv'
    have k2 : Kp h h₂ := KpB.kp k₁ kb (by simpa using hI)
    obtain ⟨b, e, l, r⟩ := (hg i hi).list
    rw [e] at hm'
    refine ev_call1 (G.mono k2) (G.mono k2).f21 (ev_local n₂ hm' ⟨Kp.refl _, dedup_spec kRow (hA.less (by omega)) (G.mono k2).lim (G.mono k2).f21 (isList_kp k2 l.isList) (fun p hp => (r p hp).mono k2) (by have := hps i hi; omega) fun r h' tk k' hr l' => ⟨h', tk, rfl, k', r, rfl, g2 r hr, l'⟩⟩)
  · rw [hlen] at l gg
    obtain ⟨o, ho⟩ := pick_fn gg
    refine q D o h' t' kb hD ?_ (fun i hi => (ho i hi).2.2) c'
    have e : (List.range k).map f = (List.range k).map fun i => Value.ref (o i) := List.map_congr_left fun i hi => (ho i (List.mem_range.mp hi)).1
    rw [← e]; exact l
theorem law_least {doc pm cd : Value} {L a : Addr} {m : Str → Option Value} {k : Nat} {g : Nat → Value} {ps : Nat → List (Value × List Int)} {Q : Flow → Shared → Prop} (hA : AOk 6 A) (G : Gnd h) (n : h.Ns L m) (ct : h.IsCell (L + 2) (some (.ref a))) (hl : h.PlainList a ((List.range k).map g).toArray)
    (hg : ∀ i, i < k → RowsG (fun _ => True) h (g i) (ps i)) (hps : ∀ i, i < k → ps i ≠ []) (hsz : k ≤ 100)
    (q : ∀ D h' t', KpB [L] h h' → h.get? D = none → h'.PlainList D ((List.range k).map fun i => (best d0 (ps i)).1).toArray → h'.Ns L (fun z => if z = Str.ofString "least" then some (.ref D) else m z) → Q .next (st s h' t')) :
    wpAny (model prog w) A (exec (lst 3) (lawEnv doc pm cd L)) Q E (st s h t) := by
  refine comp_local (L := L) (m := m) (y := Str.ofString "least") (G := fun _ i y _ => y = (best d0 (ps i)).1) hA.hh (fun _ _ _ _ _ _ g => g) (fun _ _ _ _ _ _ g => g) (fun _ _ _ _ _ _ g => g) ?_
  have hlen : ((List.range k).map g).length = k := by simp
  refine ev_cell (c := L + 2) (by rfl) ct ⟨a, _, h, _, rfl, rfl, n, hl.isList, by simp; omega, fun I h₁ k₁ hI => Turn.plain ?_, fun D f h' t' kb hD l gg n' => ?_⟩
  · rintro good C i v h₂ t₂ E' m' g1 g2 hC hi hv kb n₂ hm'
    rw [hlen] at hi
    have hv' : g i = v := by simpa [hi] using hv
    subst hv'
    have k2 : Kp h h₂ := KpB.kp k₁ kb (by simpa using hI)
    obtain ⟨b, e, l, r⟩ := (hg i hi).list
    rw [e] at hm'
    have G2 := G.mono k2
    refine ev_call2 G2 G2.f44 (ev_global G2 (ev_local n₂ hm' ⟨Kp.refl _, reduce_spec d0 (hA.less (by omega)) G2 (isList_kp k2 l.isList) (fun p hp => (r p hp).mono k2) (hps i hi) fun h' tk k' => ⟨h', tk, rfl, k', rfl⟩⟩))
  · rw [hlen] at l gg
    refine q D h' t' kb hD ?_ n'
    have e : (List.range k).map f = (List.range k).map fun i => (best d0 (ps i)).1 := List.map_congr_left fun i hi => gg i (List.mem_range.mp hi)
    rw [← e]; exact l
theorem law_size {doc pm cd : Value} {L a : Addr} {m : Str → Option Value} {k : Nat} {f : Nat → Value} {N : Nat → List Int} {z : Nat → Nat} {Q : Flow → Shared → Prop} (hA : AOk 6 A) (G : Gnd h) (n : h.Ns L m) (hm : m (Str.ofString "rows") = some (.ref a)) (hl : h.PlainList a ((List.range k).map f).toArray)
    (hf : ∀ i, i < k → RowAt h (f i) (N i)) (hN : ∀ i, i < k → (N i).length ≤ 30 ∧ N i ≠ [] ∧ (bgs (N i))[0]? = some (z i)) (hsz : k ≤ 100)
    (q : ∀ D (u : Nat → Tok) h' t', KpB [L] h h' → h.get? D = none → h'.PlainList D ((List.range k).map fun i => Value.int ((z i + 1 : Nat) : Int) (u i)).toArray → h'.Ns L (fun z => if z = Str.ofString "size" then some (.ref D) else m z) → Q .next (st s h' t')) :
    wpAny (model prog w) A (exec (lst 4) (lawEnv doc pm cd L)) Q E (st s h t) := by
  refine comp_local (L := L) (m := m) (y := Str.ofString "size") (G := fun _ i y _ => ∃ u : Tok, y = .int ((z i + 1 : Nat) : Int) u) hA.hh (fun _ _ _ _ _ _ g => g) (fun _ _ _ _ _ _ g => g) (fun _ _ _ _ _ _ g => g) ?_
  have hlen : ((List.range k).map f).length = k := by simp
  refine ev_local n hm ⟨a, _, h, _, rfl, rfl, n, hl.isList, by simp; omega, fun I h₁ k₁ hI => Turn.plain ?_, fun D g h' t' kb hD l gg n' => ?_⟩
  · rintro good C i v h₂ t₂ E' m' g1 g2 hC hi hv kb n₂ hm'
    rw [hlen] at hi
    have hv' : f i = v := by simpa [hi] using hv
    subst hv'
    have k2 : Kp h h₂ := KpB.kp k₁ kb (by simpa using hI)
    have G2 := G.mono k2
    refine ev_call1 G2 G2.f54 (ev_local n₂ hm' ⟨Kp.refl _, beginning_spec (hA.less (by omega)) G2 ((hf i hi).mono k2) (hN i hi).2.1 (hN i hi).1 (hN i hi).2.2 fun u h' tk k' => ⟨h', tk, rfl, k', u, rfl⟩⟩)
  · rw [hlen] at l gg
    obtain ⟨u, hu⟩ := pick_fn gg
    refine q D u h' t' kb hD ?_ n'
    have e : (List.range k).map g = (List.range k).map fun i => Value.int ((z i + 1 : Nat) : Int) (u i) := List.map_congr_left fun i hi => hu i (List.mem_range.mp hi)
    rw [← e]; exact l
end
end Mine
end
section
open PySem PySem.W PyProof.Rows PySem.SeqAt
set_option maxRecDepth 100000
set_option maxHeartbeats 4000000
namespace Mine
/-- an object that a name table or a cell may be, but no part of the class -/
def Apart (h : Heap) (b : Addr) : Prop := h.get? b = none ∨ (∃ v, h.IsCell b v) ∨ (∃ m, h.Ns b m ∧ m (Str.ofString "__init__") = none) ∨ ∃ o, h.get? b = some o ∧ o.data = .fields #[]
theorem ns_det {h : Heap} {L : Addr} {m m' : Str → Option Value} (a : h.Ns L m) (b : h.Ns L m') (x : Str) : m x = m' x := by
  obtain ⟨o, es, ep, e, d, _, f⟩ := a
  obtain ⟨o', es', ep', e', d', _, f'⟩ := b
  rw [e] at e'; cases e'
  rw [d] at d'; cases d'
  rw [← f, ← f']
theorem Apart.off {h : Heap} {b c : Addr} {o : Obj} (x : Apart h b) (e : h.get? c = some o) (h1 : ∀ es n, o.data ≠ .dict es n) (h2 : ∀ v, o.data ≠ .cell v) (h3 : o.data ≠ .fields #[]) : c ≠ b := by
  rintro rfl
  rcases x with x | ⟨v, o', e', d⟩ | ⟨m, ⟨o', es, ep, e', d, _⟩, _⟩ | ⟨o', e', d⟩
  · rw [e] at x; cases x
  · rw [e] at e'; cases e'; exact h2 _ d
  · rw [e] at e'; cases e'; exact h1 _ _ d
  · rw [e] at e'; cases e'; exact h3 d
theorem MethAt.apart {S : List Addr} {h h' : Heap} {f : Addr} {nm : Str} {d : DP} {cl : List (Str × Addr)} (hS : ∀ b ∈ S, Apart h b) (k : KpB S h h') : MethAt h f nm d cl → MethAt h' f nm d cl
  | ⟨q, pm, cd, ct, e, c⟩ => by
    refine ⟨q, pm, cd, ct, k _ _ (fun hm => ((hS _ hm).off e (fun _ _ z => nomatch z) (fun _ z => nomatch z) (fun z => by cases z)) rfl) e, ?_⟩
    obtain ⟨cc, oc, vs, tt, c1, c2, c3, c4⟩ := c
    exact ⟨cc, oc, vs, tt, c1, k _ _ (fun hm => ((hS _ hm).off c2 (fun _ _ z => by rw [c3] at z; cases z) (fun _ z => by rw [c3] at z; cases z) (fun z => by rw [c3] at z; cases z; cases c4)) rfl) c2, c3, c4⟩
theorem KeyCls.apart {S : List Addr} {h h' : Heap} {L C : Addr} (hS : ∀ b ∈ S, Apart h b) (k : KpB S h h') : KeyCls h L C → KeyCls h' L C
  | ⟨⟨N, p, f2, f3, f4, f5, f6, f7, tkp, m, cd, sl, a0, a1, a2, a3, a4, a5, a6, a7, n, b0, b1, b2, b3, b4, b5, b6, b7, b8, b9, m2, m3, m4, m5, m6, m7⟩⟩ => by
    have hN : N ∉ S := fun hm => by
      rcases hS _ hm with x | ⟨v, o', e', d⟩ | ⟨m', n', e'⟩ | ⟨o', e', d⟩
      · obtain ⟨o, _, _, e, _⟩ := n; rw [e] at x; cases x
      · obtain ⟨o, _, _, e, d', _⟩ := n; rw [e] at e'; cases e'; rw [d] at d'; cases d'
      · rw [← ns_det n n', b4] at e'; cases e'
      · obtain ⟨o, _, _, e, d', _⟩ := n; rw [e] at e'; cases e'; rw [d] at d'; cases d'
    exact ⟨⟨N, p, f2, f3, f4, f5, f6, f7, tkp, m, cd, sl, k _ _ (fun hm => ((hS _ hm).off a0 (fun _ _ z => nomatch z) (fun _ z => nomatch z) (fun z => by cases z)) rfl) a0, a1, a2, a3, a4, a5, a6, a7, n.at' fun o e => k _ o hN e, b0, b1,
      k _ _ (fun hm => ((hS _ hm).off b2 (fun _ _ z => nomatch z) (fun _ z => nomatch z) (fun z => by cases z)) rfl) b2, b3, b4, b5, b6, b7, b8, b9, m2.apart hS k, m3.apart hS k, m4.apart hS k, m5.apart hS k, m6.apart hS k, m7.apart hS k⟩⟩
theorem GndK.def35 {h : Heap} (G : GndK h) : DefAt h 35 (Str.ofString "cmp_to_key") (dpAt 4) .none := by
  obtain ⟨o, doc, pm, ho, hd⟩ := G.f35
  exact ⟨o, doc, pm, .ref 34, ho, hd, 34, _, _, _, rfl, G.c34, rfl, rfl⟩
/-- the class, ready for use -/
structure KeyOk (h : Heap) (Lk C : Addr) : Prop where
  cls : KeyCls h Lk C
  cell : h.IsCell (Lk + 1) (some (.ref 68))
theorem KeyOk.mono {h h' : Heap} {L C : Addr} (k : Kp h h') (x : KeyOk h L C) : KeyOk h' L C := ⟨x.cls.mono k, x.cell.keeps k⟩
theorem KeyOk.apart {S : List Addr} {h h' : Heap} {L C : Addr} (hS : ∀ b ∈ S, Apart h b) (hL : L + 1 ∉ S) (k : KpB S h h') (x : KeyOk h L C) : KeyOk h' L C :=
  ⟨x.cls.apart hS k, let ⟨o, e, d⟩ := x.cell; ⟨o, k _ _ hL e, d⟩⟩
section
variable {prog : Program} {w : World} {M : Model} {A : Around} {E : Value → Shared → Prop} {R : Result → Shared → Prop} {s : Shared} {h : Heap} {t : Nat} {env : Env}
theorem law_key {doc pm cd : Value} {L : Addr} {m : Str → Option Value} {Q : Flow → Shared → Prop} (hA : AOk 7 A) (G : Gnd h) (GK : GndK h) (n : h.Ns L m) (hmi : m (Str.ofString "__init__") = none)
    (q : ∀ C Lk h' t', KpB [30, L] h h' → h.get? (Lk + 1) = none → (∃ c', h'.get? 30 = some { cls := .none, data := .fields #[.int 21 0, .int 4 0, .ref c'] }) → KeyOk h' Lk C → h'.Ns L (fun z => if z = Str.ofString "key" then some (.ref C) else m z) → Q .next (st s h' t')) :
    wpAny (model prog w) A (exec (lst 5) (lawEnv doc pm cd L)) Q E (st s h t) := by
  refine wpAny_Assign_Name (ev_call1 G GK.def35 (ev_global G ⟨Kp.refl _, key_spec (hA.less (by omega)) G.lim GK fun C Lk h₁ t₁ k₁ hC hLk h30 KC cell => ?_⟩))
  have n₁ : h₁.Ns L m := n.at' fun o e => k₁ _ o (by
    simp only [List.mem_cons, List.not_mem_nil, or_false]
    rintro rfl
    obtain ⟨o', _, _, e', d, _⟩ := n
    rw [GK.p30] at e'; cases e'; cases d) e
  refine st_local n₁ fun h₂ n₂ b₂ => ?_
  have ap : ∀ b ∈ [L], Apart h₁ b := fun b hb => by rw [List.mem_singleton.mp hb]; exact .inr (.inr (.inl ⟨m, n₁, hmi⟩))
  have k₂ : KpB [L] h₁ h₂ := KpB.same b₂
  have hL30 : L ≠ 30 := by
    rintro rfl
    obtain ⟨o', _, _, e', d, _⟩ := n
    rw [GK.p30] at e'; cases e'; cases d
  obtain ⟨c', e30⟩ := h30
  refine q C Lk h₂ _ (fun b o hb e => ?_) hLk ⟨c', (b₂.2 30 hL30.symm).trans e30⟩ (KeyOk.apart ap ?_ k₂ ⟨KC, cell⟩) n₂
  · simp only [List.mem_cons, List.not_mem_nil, or_false, not_or] at hb
    exact k₂ b o (by simpa using hb.2) (k₁ b o (by simpa using hb.1) e)
  · obtain ⟨o, _, _, e, _⟩ := n
    simp only [List.mem_cons, List.not_mem_nil, or_false]
    exact (ne_of_none e hLk).symm
/-- key(e) -/
theorem ev_key {L Lk C : Addr} {m : Str → Option Value} {e : Expr} {p pos : Pos} {Q : Value → Shared → Prop} (n : h.Ns L m) (hm : m (Str.ofString "key") = some (.ref C)) (KO : KeyOk h Lk C)
    (q : wpAny (model prog w) A (eval e env) (fun v s₁ => Kp h s₁.heap ∧ wpAny (model prog w) A (call (.ref C) [v]) Q E s₁) E (st s h t))
    (hL : env.locals = L := by rfl) (hk : env.scope.kind = .function := by rfl) (hl : env.kindOf (Str.ofString "key") = some .local := by rfl)
    (h1 : eval (.Call (.Name (Str.ofString "key") p) [e] [] pos) env = (do callWith pos (← eval (.Name (Str.ofString "key") p) env) [] (backTo pos (starEach [e] env)) (backToKw pos (keywordEach [] env))) := by rfl)
    (he : starEach [e] env = (false, eval e env) :: starEach [] env := by rfl) :
    wpAny (model prog w) A (eval (.Call (.Name (Str.ofString "key") p) [e] [] pos) env) Q E (st s h t) := by
  obtain ⟨pp, f, ⟨X⟩, M⟩ := KO.cls.sees.1
  have hkeep : keepIn X.K (.ref C) = true := by
    show (match X.K.lookup C with
      | some ⟨_, _, .func _, _⟩ => true
      | some ⟨_, _, .cls _, _⟩ => specialIn X.K (.ref C) (Str.ofString "__call__") == some (some (.builtin "type.__call__"))
      | _ => false) = true
    rw [X.F.look]
    have a1 : specialIn X.K (.ref C) (Str.ofString "__call__") = some (some (.builtin "type.__call__")) := by
      unfold specialIn; rw [X.tC]; exact ty_call
    show (specialIn X.K (.ref C) (Str.ofString "__call__") == some (some (.builtin "type.__call__"))) = true
    rw [a1]; simp
  refine Call_ (ev_local n hm (callWith_K (h₀ := h) X.F.into hkeep (args_cons (wpAny_mono q (fun v s₁ q => args_nil ⟨X.F.into.keeps q.1, q.2⟩) fun _ _ e => e) he) he) hL hk hl) h1
end
end Mine
end
section
open PySem PySem.W PyProof.Rows PySem.SeqAt
set_option maxRecDepth 100000
set_option maxHeartbeats 4000000
namespace Mine
section
variable {prog : Program} {w : World} {M : Model} {A : Around} {E : Value → Shared → Prop} {R : Result → Shared → Prop} {s : Shared} {h : Heap} {t : Nat} {env : Env}
/-- a != b of data -/
theorem do_ne {a b : Value} {da db : PyData} {as bs : List Addr} {Q : Value → Shared → Prop} (ra : Reads h a da as) (rb : Reads h b db bs) (ha : da.canLay0 = true) (hb : db.canLay0 = true) (hd : da.depth ≤ 20) (hu : A.units + 40 < cLine)
    (q : Q (.bool (!PyData.eqv da db)) (st s h t)) : wpAny (model prog w) A (compareOp .NotEq a b) Q E (st s h t) :=
  rcNeAt_reads (s := st s h t) ra rb ha hb (by omega) prog w E Q q
theorem readsBools {h : Heap} : ∀ (bs : List Bool), ReadsAll h (bs.map Value.bool) (bs.map PyData.bool) []
  | [] => .nil
  | b :: r => ReadsAll.cons (as := []) (.bool b) (readsBools r)
theorem reads_plain {h : Heap} {a : Addr} {vs : List Value} {ds : List PyData} {as : List Addr} (l : h.PlainList a vs.toArray) (r : ReadsAll h vs ds as) : Reads h (.ref a) (.list ds) (a :: as) := by
  obtain ⟨n, e⟩ := l
  exact .list e rfl rfl (by simpa using r)
/-- key([a]) op key([b]) -/
theorem ev_pair {L Lk C : Addr} {m : Str → Option Value} {op : CmpOp} {a b : Int} {r : Bool} {k1 k2 : Nat} {p1 p2 p3 p4 p5 p6 p7 p8 p9 : Pos} {Q : Value → Shared → Prop} (hA : AOk 7 A) (G : Gnd h) (n : h.Ns L m) (hm : m (Str.ofString "key") = some (.ref C)) (KO : KeyOk h Lk C)
    (hcmp : ∀ (h : Heap) (t : Nat) (x y : Addr) (vx vy : Value) (Q : Value → Shared → Prop), Gnd h → KeyAt h Lk C x vx → KeyAt h Lk C y vy → RowAt h vx [a] → RowAt h vy [b] → h.IsCell (Lk + 1) (some (.ref 68)) → (∀ h' tk, Kp h h' → Q (.bool r) (st s h' tk)) → wpAny (model prog w) A (compareOp op (.ref x) (.ref y)) Q E (st s h t))
    (q : ∀ h' tk, Kp h h' → Q (.bool r) (st s h' tk))
    (hL : env.locals = L := by rfl) (hk : env.scope.kind = .function := by rfl) (hl : env.kindOf (Str.ofString "key") = some .local := by rfl)
    (hmk : behindInMarks op (.Call (.Name (Str.ofString "key") p5) [.List [.Constant (.int b) k2 p6] p7] [] p8) = false := by with_unfolding_all rfl) :
    wpAny (model prog w) A (eval (.Compare (.Call (.Name (Str.ofString "key") p1) [.List [.Constant (.int a) k1 p2] p3] [] p4) [op] [.Call (.Name (Str.ofString "key") p5) [.List [.Constant (.int b) k2 p6] p7] [] p8] p9) env) Q E (st s h t) := by
  refine wpAny_Compare1 (ev_key n hm KO (List_ (args_cons (ev_int fun u₁ t₁ => args_nil (ev_newList fun r₁ h₁ k₁ hr₁ l₁ => ⟨k₁, make_spec (hA.less (by omega)) (G.mono k₁).lim (KO.mono k₁).cls fun x h₂ t₂ k₂ hx X => ?_⟩)))) hL hk hl) hmk
  have k02 := k₁.trans k₂
  refine ev_key (n.keeps k02) hm (KO.mono k02) (List_ (args_cons (ev_int fun u₃ t₃ => args_nil (ev_newList fun r₂ h₃ k₃ hr₂ l₃ => ⟨k₃, make_spec (hA.less (by omega)) (G.mono (k02.trans k₃)).lim (KO.mono (k02.trans k₃)).cls fun y h₄ t₄ k₄ hy Y => ?_⟩)))) hL hk hl
  have k24 := k₃.trans k₄
  have k04 := k02.trans k24
  exact hcmp h₄ t₄ x y _ _ _ (G.mono k04) (X.mono k24) Y ⟨r₁, _, rfl, plain_kp (k₂.trans k24) l₁, .cons a u₁ .nil⟩ ⟨r₂, _, rfl, plain_kp k₄ l₃, .cons b u₃ .nil⟩ (KO.mono k04).cell fun h' tk k' => q h' tk (k04.trans k')
theorem law_test1 {doc pm cd : Value} {L Lk C : Addr} {m : Str → Option Value} {Q : Flow → Shared → Prop} (hA : AOk 7 A) (G : Gnd h) (n : h.Ns L m) (hm : m (Str.ofString "key") = some (.ref C)) (KO : KeyOk h Lk C)
    (q : ∀ h' t', Kp h h' → Q .next (st s h' t')) : wpAny (model prog w) A (exec (lst 6) (lawEnv doc pm cd L)) Q E (st s h t) := by
  refine wpAny_If (wpAny_isTrue_Compare1 (List_ (args_cons ?_)))
  refine ev_pair (r := true) hA G n hm KO (fun h t x y vx vy Q G X Y px py c q => key_lt (hA.less (by omega)) G X Y px py c (by decide) q) fun h₁ t₁ k₁ => args_cons ?_
  refine ev_pair (r := false) hA (G.mono k₁) (n.keeps k₁) hm (KO.mono k₁) (fun h t x y vx vy Q G X Y px py c q => key_lt (hA.less (by omega)) G X Y px py c (by decide) q) fun h₂ t₂ k₂' => args_cons ?_
  have k₂ := k₁.trans k₂'
  refine ev_pair (r := false) hA (G.mono k₂) (n.keeps k₂) hm (KO.mono k₂) (fun h t x y vx vy Q G X Y px py c q => key_gt (hA.less (by omega)) G X Y px py c (by decide) q) fun h₃ t₃ k₃' => args_cons ?_
  have k₃ := k₂.trans k₃'
  refine ev_pair (r := true) hA (G.mono k₃) (n.keeps k₃) hm (KO.mono k₃) (fun h t x y vx vy Q G X Y px py c q => key_ge (hA.less (by omega)) G X Y px py c (by decide) q) fun h₄ t₄ k₄' => args_cons ?_
  have k₄ := k₃.trans k₄'
  refine ev_pair (r := true) hA (G.mono k₄) (n.keeps k₄) hm (KO.mono k₄) (fun h t x y vx vy Q G X Y px py c q => key_le (hA.less (by omega)) G X Y px py c (by decide) q) fun h₅ t₅ k₅' => args_nil ?_
  have k₅ := k₄.trans k₅'
  refine ev_newList (s := s) (h := h₅) fun r₁ h₆ k₆ hr₁ l₆ => ?_
  refine List_ (args_cons (ev_bool (args_cons (ev_bool (args_cons (ev_bool (args_cons (ev_bool (args_cons (ev_bool (args_nil ?_)))))))))))
  refine ev_newList (s := s) (h := h₆) fun r₂ h₇ k₇ hr₂ l₇ => ?_
  refine do_ne (s := s) (h := h₇) (reads_plain (plain_kp k₇ l₆) (readsBools [true, false, false, true, true])) (reads_plain l₇ (readsBools [true, false, false, true, true])) (by decide) (by decide) (by decide) (by have := hA.hu; omega) ?_
  refine wpAny_truthy_bool (wpAny_execs_nil (q h₇ _ ((k₅.trans k₆).trans k₇)))
end
end Mine
end
section
open PySem PySem.W PyProof.Rows PySem.SeqAt
set_option maxRecDepth 100000
set_option maxHeartbeats 4000000
namespace Mine
section
variable {prog : Program} {w : World} {M : Model} {A : Around} {E : Value → Shared → Prop} {R : Result → Shared → Prop} {s : Shared} {h : Heap} {t : Nat} {env : Env}
/-- a for loop whose invariant stands a turn of the iterator -/
theorem for_walk2 {I : Addr} {fp wr : List Addr} {n k : Nat} {P : Nat → Value → Prop} {St : Nat → Heap → Prop} {target : Expr} {body : List Stmt}
    (W : Walks prog w A I fp wr n P St) (S : List Addr) (hS : ∀ b ∈ S, b ∉ fp) (J : Nat → Heap → Prop)
    (Jf : ∀ i h h', St i h → J i h → KpB wr h h' → J i h')
    (st0 : St k h) (j0 : J k h) (hk : k ≤ n)
    (turn : ∀ i v h₁ tk, k ≤ i → i < n → P i v → J i h₁ →
      wpAny (model prog w) A (assign target env v) (fun _ s₂ => wpAny (model prog w) A (execs body env) (fun fl s₃ => match fl with
          | .next | .cont => ∃ h' tk', s₃ = st s h' tk' ∧ KpB S h₁ h' ∧ J (i + 1) h'
          | .brk => R (.ok .next) s₃
          | .ret v => R (.ok (.ret v)) s₃) (notedBy (model prog w) A env fun e s' => R (.error e) s') s₂) (notedBy (model prog w) A env fun e s' => R (.error e) s') (st s h₁ tk))
    (done : ∀ h₁ tk, J n h₁ → R (.ok .next) (st s h₁ tk))
    (ht : ∀ v, letOwnedTupleGo target (.ref I) v = pure () := by intro _; rfl) :
    codeAny (model prog w) A (.forLoop target (.ref I) body [] env) R (st s h t) := by
  refine codeAny_forLoop (fun c s' => ∃ i h₁ tk, s' = st s h₁ tk ∧ k ≤ i ∧ i ≤ n ∧ c = n + 1 - i ∧ St i h₁ ∧ J i h₁) ?_ (n + 1 - k)
    ⟨k, h, t, rfl, Nat.le_refl _, hk, rfl, st0, j0⟩ ht
  rintro c s' ⟨i, h₀, tk, rfl, hki, hin, rfl, sti, ji⟩
  by_cases hlt : i < n
  · refine W.item i (st s h₀ tk) _ _ hlt sti fun v h₁ tk₁ hP st₁ hk₁ => ?_
    have j1 : J i h₁ := Jf i h₀ h₁ sti ji hk₁
    refine wpAny_mono (turn i v h₁ tk₁ hki hlt hP j1) (fun _ s₂ q => wpAny_mono q (fun fl s₃ q => ?_) fun _ _ e => e) fun _ _ e => e
    have fin : (∃ h' tk', s₃ = st s h' tk' ∧ KpB S h₁ h' ∧ J (i + 1) h') → ∃ m, m < n + 1 - i ∧ ∃ i h₁ tk, s₃ = st s h₁ tk ∧ k ≤ i ∧ i ≤ n ∧ m = n + 1 - i ∧ St i h₁ ∧ J i h₁ := by
      rintro ⟨h', tk', e, kq, jq⟩
      exact ⟨n + 1 - (i + 1), by omega, i + 1, h', tk', e, by omega, hlt, rfl, W.frame _ _ _ st₁ fun b hb o e => kq b o (fun m => hS b m hb) e, jq⟩
    cases fl with
    | next => exact fin q
    | cont => exact fin q
    | brk => exact q
    | ret v => exact q
  · have hin' : i = n := by omega
    subst hin'
    refine W.done (st s h₀ tk) _ _ sti fun h₁ tk₁ hk₁ => wpAny_execs_nil ?_
    exact done h₁ tk₁ (Jf i h₀ h₁ sti ji hk₁)
/-- reduce(f, xs) for any function f -/
theorem reduce_gen {f a : Addr} {vs : List Value} {v₀ : Value} (Inv : Nat → Value → Heap → Prop) (hInv : ∀ i v h h', KpS h h' → Inv i v h → Inv i v h') {Q : Value → Shared → Prop} (hA : AOk 4 A) (G : Gnd h) (hf : ∃ o fd, h.get? f = some o ∧ o.data = .func fd) (hl : h.IsList a vs.toArray) (h0 : vs[0]? = some v₀) (hi : Inv 1 v₀ h)
    (step : ∀ B i v x h₁ t₁ (E' : Value → Shared → Prop) (Q' : Value → Shared → Prop), AOk 3 B → vs[i]? = some x → Kp h h₁ → Inv i v h₁ → (∀ v' h' t', Kp h₁ h' → Inv (i + 1) v' h' → Q' v' (st s h' t')) → wpAny (model prog w) B (call (.ref f) [v, x]) Q' E' (st s h₁ t₁))
    (q : ∀ v h' tk, Kp h h' → Inv vs.length v h' → Q v (st s h' tk)) : wpAny (model prog w) A (call (.ref 44) [.ref f, .ref a]) Q E (st s h t) := by
  have hpos : 0 < vs.length := (List.getElem?_eq_some_iff.mp h0).1
  refine call_def (hA.less (by omega)) G.lim G.f44 (binds := [(Str.ofString "function", .ref f), (Str.ofString "sequence", .ref a), (Str.ofString "initial", .ref 36)]) (fun doc pm cd => ?_) (fun doc pm cd L h₀ tk k₀ hL n₀ => ?_)
  · obtain ⟨o, n, ho, hd⟩ := G.t37
    exact BindsTo.of_defaults (s := st s h t) rfl ho hd rfl rfl
  have hA1 := hA.deeper (callEnv (fdOf (Str.ofString "reduce") (dpAt 6) (.ref 37) doc pm cd) L 44)
  generalize hB : A.deeper (callEnv (fdOf (Str.ofString "reduce") (dpAt 6) (.ref 37) doc pm cd) L 44) = B at hA1 ⊢
  refine wpAny_execs_cons (wpAny_Assign_Name (ev_bi1 (G.mono k₀) boot_iter (ev_local n₀ rfl (do_iter (isList_kp k₀ hl) fun I h₁ k₁ hI i₁ => ?_))))
  refine st_local (n₀.keeps k₁) (fun h₂ n₂ b₂ => ?_)
  have hIL : I ≠ L := (ns_ne n₀ hI).symm
  have i₂ := i₁.extBut b₂.extBut hIL
  have kS2 : Kp h h₂ := KpB.kp (k₀.trans k₁) (KpB.same b₂) (by simpa using hL)
  have hI0 : h.get? I = none := none_of_kp k₀ hI
  have haI : a ≠ I := iter_ne hl hI0
  have haL : a ≠ L := iter_ne hl hL
  refine wpAny_execs_cons (wpAny_If (wpAny_isTrue_Compare1 (ev_local n₂ rfl (ev_global (G.mono kS2) (wpAny_is_ref_self (wpAny_truthy_bool ?_))))))
  refine wpAny_execs_cons (wpAny_Try_except (wpAny_execs_cons (wpAny_Assign_Name (ev_bi1 (G.mono kS2) boot_next (ev_local n₂ rfl (do_next i₂ (isList_kp kS2 hl) h0 fun h₃ i₃ b₃ => ?_))))))
  refine st_local (n₂.sameBut b₃ hIL.symm) (fun h₄ n₄ b₄ => wpAny_execs_nil (wpAny_execs_nil (wpAny_execs_nil ?_)))
  have i₄ := i₃.extBut b₄.extBut hIL
  have new : ∀ b ∈ [L] ++ [I], h.get? b = none := by
    simp only [List.singleton_append, List.mem_cons, List.not_mem_nil, or_false, forall_eq_or_imp, forall_eq]; exact ⟨hL, hI0⟩
  have kS4 : Kp h h₄ := KpB.kp kS2 (((KpB.same b₃).more (by simp)).trans ((KpB.same b₄).more (by simp))) new
  refine wpAny_execs_cons (wpAny_For (ev_local n₄ rfl (wpAny_pyIter_listiter (s := st s h₄ _) i₄ ?_)))
  have hn : vs.toArray.size = vs.length := by simp
  refine for_walk2 (Walks.list hA1.hh I a haI vs.toArray) [L] (by simp [hIL.symm, haL.symm]) 
    (fun i h' => ∃ m v, h'.Ns L m ∧ m (Str.ofString "function") = some (.ref f) ∧ m (Str.ofString "value") = some v ∧ Inv i v h' ∧ Kp h h') ?_ (k := 1) ⟨i₄, isList_kp kS4 hl⟩ ?_ (by rw [hn]; exact hpos) ?_ ?_
  · rintro i h₅ h' ⟨r5, _⟩ ⟨m, v, n, r1, r2, r3, r4⟩ k
    have notI : KpS h₅ h' := KpS.b k fun b hb o e vs c d => by
      rw [List.mem_singleton.mp hb] at e
      obtain ⟨o', e', _, d'⟩ := r5
      rw [e] at e'; cases e'; rw [d] at d'; cases d'
    exact ⟨m, v, n.at' fun o e => k _ o (by simpa using hIL.symm) e, r1, r2, hInv _ _ _ _ notI r3, KpB.kp r4 k (by simpa using hI0)⟩
  · exact ⟨_, v₀, n₄, rfl, if_pos rfl, hInv _ _ _ _ (KpS.kp kS4) hi, kS4⟩
  · rintro i v h₅ tk₅ h1i hi' hv ⟨m, x, n₅, hfn, hm, iv, k5⟩
    rw [hn] at hi'
    have hv' : vs[i]? = some v := by simpa using hv
    refine wpAny_assign_Name (st_local n₅ fun h₆ n₆ b₆ => ?_)
    have kS6 : Kp h h₆ := KpB.kp k5 (KpB.same b₆) (by simpa using hL)
    obtain ⟨fo, ffd, hfo, hfd⟩ := hf
    refine wpAny_execs_cons (wpAny_Assign_Name (Call_ (ev_local n₆ ((if_neg (by decide)).trans hfn) (callWith_def hfd (args_cons (ev_local n₆ ((if_neg (by decide)).trans hm) (args_cons (ev_local n₆ (if_pos rfl) (args_nil ⟨kS6 _ _ hfo, ?_⟩)))))))))
    refine step B i x v h₆ _ _ _ hA1 hv' kS6 (hInv _ _ _ _ (KpS.ns n₅ (KpB.same b₆)) iv) fun v' h₇ t₇ k₇ iv' => ?_
    refine st_local (n₆.keeps k₇) (fun h₈ n₈ b₈ => wpAny_execs_nil ⟨h₈, _, rfl, ((KpB.same b₆).trans (KpB.of k₇)).trans (KpB.same b₈), _, v', n₈, ?_, if_pos rfl, hInv _ _ _ _ (KpS.ns (n₆.keeps k₇) (KpB.same b₈)) iv', KpB.kp (kS6.trans k₇) (KpB.same b₈) (by simpa using hL)⟩)
    exact (if_neg (by decide)).trans ((if_neg (by decide)).trans hfn)
  · rintro h₅ tk₅ ⟨m, x, n₅, hfn, hm, iv, k5⟩
    rw [hn] at iv
    exact wpAny_execs_cons (wpAny_Return_some (ev_local n₅ hm (q x h₅ _ k5 iv)))
/-- reduce(f, [], v) -/
theorem reduce_none {f a b : Addr} {vs : Array Value} {Q : Value → Shared → Prop} (hA : AOk 4 A) (G : Gnd h) (h36 : ∃ o, h.get? 36 = some o) (hl : h.PlainList a #[]) (hb : h.PlainList b vs) (hb36 : b ≠ 36)
    (q : ∀ h' tk, Kp h h' → Q (.ref b) (st s h' tk)) : wpAny (model prog w) A (call (.ref 44) [.ref f, .ref a, .ref b]) Q E (st s h t) := by
  refine call_def (hA.less (by omega)) G.lim G.f44 (binds := [(Str.ofString "function", .ref f), (Str.ofString "sequence", .ref a), (Str.ofString "initial", .ref b)]) (fun doc pm cd => ?_) (fun doc pm cd L h₀ tk k₀ hL n₀ => ?_)
  · obtain ⟨o, n, ho, hd⟩ := G.t37
    exact BindsTo.of_defaults (s := st s h t) rfl ho hd rfl rfl
  have hA1 := hA.deeper (callEnv (fdOf (Str.ofString "reduce") (dpAt 6) (.ref 37) doc pm cd) L 44)
  generalize hB : A.deeper (callEnv (fdOf (Str.ofString "reduce") (dpAt 6) (.ref 37) doc pm cd) L 44) = B at hA1 ⊢
  refine wpAny_execs_cons (wpAny_Assign_Name (ev_bi1 (G.mono k₀) boot_iter (ev_local n₀ rfl (do_iter (plain_kp k₀ hl).isList fun I h₁ k₁ hI i₁ => ?_))))
  refine st_local (n₀.keeps k₁) (fun h₂ n₂ b₂ => ?_)
  have hIL : I ≠ L := (ns_ne n₀ hI).symm
  have i₂ := i₁.extBut b₂.extBut hIL
  have kS2 : Kp h h₂ := KpB.kp (k₀.trans k₁) (KpB.same b₂) (by simpa using hL)
  have hI0 : h.get? I = none := none_of_kp k₀ hI
  have haI : a ≠ I := iter_ne hl.isList hI0
  have haL : a ≠ L := iter_ne hl.isList hL
  obtain ⟨o36, e36⟩ := h36
  obtain ⟨nb, eb⟩ := hb
  refine wpAny_execs_cons (wpAny_If (wpAny_isTrue_Compare1 (ev_local n₂ rfl (ev_global (G.mono kS2) (wpAny_is_ref_other (s := st s h₂ _) hb36 (kS2 _ _ eb) (kS2 _ _ e36) (fun z => by have := Value.type.inj z; exact absurd this (by decide)) (wpAny_truthy_bool ?_))))))
  refine wpAny_execs_cons (wpAny_Assign_Name (ev_local n₂ rfl (st_local n₂ fun h₃ n₃ b₃ => wpAny_execs_nil ?_)))
  have i₃ := i₂.extBut b₃.extBut hIL
  have kS3 : Kp h h₃ := KpB.kp kS2 (KpB.same b₃) (by simpa using hL)
  refine wpAny_execs_cons (wpAny_For (ev_local n₃ rfl (wpAny_pyIter_listiter (s := st s h₃ _) i₃ ?_)))
  refine for_walk2 (Walks.list hA1.hh I a haI #[]) [L] (by simp [hIL.symm, haL.symm]) 
    (fun i h' => ∃ m, h'.Ns L m ∧ m (Str.ofString "value") = some (.ref b) ∧ Kp h h') ?_ (k := 0) ⟨i₃, (plain_kp kS3 hl).isList⟩ ?_ (Nat.zero_le _) ?_ ?_
  · rintro i h₅ h' _ ⟨m, n, r2, r4⟩ k
    exact ⟨m, n.at' fun o e => k _ o (by simpa using hIL.symm) e, r2, KpB.kp r4 k (by simpa using hI0)⟩
  · exact ⟨_, n₃, if_pos rfl, kS3⟩
  · rintro i v h₅ tk₅ h1i hi' hv
    exact absurd hi' (Nat.not_lt_zero _)
  · rintro h₅ tk₅ ⟨m, n₅, hm, k5⟩
    exact wpAny_execs_cons (wpAny_Return_some (ev_local n₅ hm (q h₅ _ k5)))
end
end Mine
end
section
open PySem PySem.W PyProof.Rows PySem.SeqAt
set_option maxRecDepth 100000
set_option maxHeartbeats 4000000
namespace Mine
/-- what else the law finds -/
structure GndL (h : Heap) : Prop where
  o36 : ∃ o, h.get? 36 = some o ∧ o.data = .plain
  c72 : CodeHd h 72 70
  o4 : h.get? 4 = some ⟨.type "module", some 0, .plain, #[]⟩
  g : ∃ mg, h.Ns mainGlobals mg ∧ mg (Str.ofString "__builtins__") = some (.ref 4)
theorem GndL.b {S : List Addr} {h h' : Heap} (k : KpB S h h') (h36 : 36 ∉ S) (h72 : 72 ∉ S) (h4 : 4 ∉ S) (h3 : mainGlobals ∉ S) (x : GndL h) : GndL h' where
  o36 := let ⟨o, e, d⟩ := x.o36; ⟨o, k _ _ h36 e, d⟩
  c72 := let ⟨o, vs, file, tf, flags, tg, inF, text, tt, e, r⟩ := x.c72; ⟨o, vs, file, tf, flags, tg, inF, text, tt, k _ _ h72 e, r⟩
  o4 := k _ _ h4 x.o4
  g := let ⟨mg, n, e⟩ := x.g; ⟨mg, n.at' fun o e => k _ o h3 e, e⟩
theorem GndL.mono {h h' : Heap} (k : Kp h h') (x : GndL h) : GndL h' := x.b (KpB.of (S := []) k) (by simp) (by simp) (by simp) (by simp)
def noE : Expr := .Constant .none 0 default
def exOf : Stmt → List Expr
  | .Assign _ (.List es _) _ => es
  | _ => []
def argsOf : Expr → List Expr
  | .Call _ as _ _ => as
  | _ => []
structure LP where
  params : Arguments
  body : Expr
  scope : Scope
  pos : Pos
def lpOf : Expr → LP
  | .Lambda a b s p => ⟨a, b, s, p⟩
  | _ => ⟨⟨[], [], none, [], [], none, []⟩, noE, default, default⟩
/-- lambda a, b: [a, b] -/
def lam : LP := lpOf ((argsOf ((exOf (lst 7)).getD 2 noE)).getD 0 noE)
def LamAt (h : Heap) (f : Addr) : Prop := ∃ q pm cd ct, h.get? f = some { cls := .type "function", data := .func (kla_fn (Str.ofString "<lambda>") q lam.params lam.body lam.scope [] pm cd ct) } ∧ h.CodeRec cd q
theorem LamAt.mono {h h' : Heap} {f : Addr} (k : Kp h h') : LamAt h f → LamAt h' f
  | ⟨q, pm, cd, ct, e, c⟩ => ⟨q, pm, cd, ct, k _ _ e, c.keeps k⟩
section
variable {prog : Program} {w : World} {M : Model} {A : Around} {E : Value → Shared → Prop} {R : Result → Shared → Prop} {s : Shared} {h : Heap} {t : Nat} {env : Env}
theorem lam_spec {f : Addr} {x y : Value} {Q : Value → Shared → Prop} (hA : AOk 1 A) (hlim : h.NoLimit) (hf : LamAt h f)
    (q : ∀ r h' tk, Kp h h' → h.get? r = none → h'.PlainList r #[x, y] → Q (.ref r) (st s h' tk)) : wpAny (model prog w) A (call (.ref f) [x, y]) Q E (st s h t) := by
  obtain ⟨qn, pm, cd, ct, ho, hc⟩ := hf
  have hbind : BindsTo (st s h t) (kla_fn (Str.ofString "<lambda>") qn lam.params lam.body lam.scope [] pm cd ct) ⟨[x, y], []⟩ [(Str.ofString "a", x), (Str.ofString "b", y)] := BindsTo.of_eq (by rfl)
  refine wpAny_call (kla_callFunE (s := st s h t) (by have := hA.hd; omega) ho rfl rfl rfl rfl hc (hbind _ _ _ _ ?_))
  refine wpAny_newFunctionEnv (by show ∀ x ∈ lam.scope.names, x.2 ≠ .cell; decide) (by exact locs rfl) (fun h₀ hns₀ hsb₀ => ⟨hlim.fresh _ hsb₀, kla_codeExpr ?_⟩) rfl
  have k₀ : Kp h h₀ := fun b o e => hsb₀.extBut b o (Nat.ne_of_lt (Heap.lt_size e)) (Heap.get?_push_of_some _ e)
  refine List_ (args_cons (ev_local (s := s) (h := h₀) hns₀ rfl (args_cons (ev_local (s := s) (h := h₀) hns₀ rfl (args_nil (ev_newList (s := s) (h := h₀) fun r h₁ k₁ hr l₁ => ?_))))))
  exact q r h₁ _ (k₀.trans k₁) (none_of_kp k₀ hr) l₁
theorem ev_lam {doc pm : Value} {L : Addr} {Q : Value → Shared → Prop} (G : GndL h) (hP : h.get? 70 = some (tabObj #[]))
    (q : ∀ f c' h' tk, KpB [70] h h' → h'.get? 70 = some (tabObj #[rawInt lam.pos.line, rawInt lam.pos.col, .ref c']) → LamAt h' f → Q (.ref f) (st s h' tk)) :
    wpAny M A (eval ((argsOf ((exOf (lst 7)).getD 2 noE)).getD 0 noE) (lawEnv doc pm (.ref 72) L)) Q E (st s h t) := by
  obtain ⟨mg, ng, gb⟩ := G.g
  refine wpAny_bind (m := evalAll _) (wpAny_pure (wpAny_bind (wpAny_holding (wpAny_pure ?_))))
  refine kla_makeFunction (s := st s h t) (c := 72) (P := 70) (ps := #[]) (mg := mg) (clos := []) (by rfl) rfl ng rfl G.c72 hP trivial rfl (by decide) ⟨4, _, gb, by decide, by decide, by decide, G.o4, rfl, rfl, rfl⟩ fun c' ctv h' tk hx hge hlt hrec htb => ?_
  have k : KpB [70] h h' := fun b o hb e => hx b o (by simpa using hb) e
  have kp : Kp h' (h'.push (kla_obj (Str.ofString "<lambda>") ((lawEnv doc pm (.ref 72) L).qual ++ Str.ofString "<lambda>") lam.params lam.body lam.scope [] ((mg (Str.ofString "__name__")).getD .none) c' ctv)) := Kp.push _ _
  refine q _ c' _ _ (k.trans (KpB.of kp)) (kp _ _ htb) ⟨_, _, _, _, Heap.get?_push_size _ rfl, hrec.keeps kp⟩
end
end Mine
end
section
open PySem PySem.W PyProof.Rows PySem.SeqAt
set_option maxRecDepth 100000
set_option maxHeartbeats 4000000
namespace Mine
theorem CodeRec.b {S : List Addr} {h h' : Heap} {cd : Value} {q : Str} (k : KpB S h h') (hS : ∀ b ∈ S, ∀ o vs, h.get? b = some o → o.data = .fields vs → vs[1]? = none) : h.CodeRec cd q → h'.CodeRec cd q
  | ⟨c, o, vs, t, e1, e2, e3, e4⟩ => ⟨c, o, vs, t, e1, k _ _ (fun hm => by rw [hS _ hm _ _ e2 e3] at e4; cases e4) e2, e3, e4⟩
/-- an object that is no part of the ground -/
def Loose (h : Heap) (b : Addr) : Prop := (h.get? b = none) ∨ (74 ≤ b ∧ (∃ m, h.Ns b m) ) ∨ (∃ v, 74 ≤ b ∧ h.IsCell b v) ∨ ∃ o, h.get? b = some o ∧ o.data = .fields #[] ∧ b ≠ 37
theorem Loose.code {S : List Addr} {h h' : Heap} {cd : Value} {q : Str} (hS : ∀ b ∈ S, Loose h b) (k : KpB S h h') : h.CodeRec cd q → h'.CodeRec cd q := CodeRec.b k fun b hb o vs e d => by
  rcases hS b hb with x | ⟨_, m, o', _, _, e', d', _⟩ | ⟨v, _, o', e', d'⟩ | ⟨o', e', d', _⟩
  · rw [e] at x; cases x
  · rw [e] at e'; cases e'; rw [d] at d'; cases d'
  · rw [e] at e'; cases e'; rw [d] at d'; cases d'
  · rw [e] at e'; cases e'; rw [d] at d'; cases d'; rfl
theorem Loose.defAt {S : List Addr} {h h' : Heap} {f : Addr} {nm : Str} {d : DP} {dV : Value} (hS : ∀ b ∈ S, Loose h b) (k : KpB S h h') : DefAt h f nm d dV → DefAt h' f nm d dV
  | ⟨o, doc, pm, cd, e, e', c⟩ => ⟨o, doc, pm, cd, k _ _ (fun hm => by
      rcases hS _ hm with x | ⟨_, m, o', _, _, e1, d', _⟩ | ⟨v, _, o', e1, d'⟩ | ⟨o', e1, d', _⟩
      · rw [e] at x; cases x
      · rw [e] at e1; cases e1; rw [e'] at d'; cases d'
      · rw [e] at e1; cases e1; rw [e'] at d'; cases d'
      · rw [e] at e1; cases e1; rw [e'] at d'; cases d') e, e', Loose.code hS k c⟩
theorem Loose.ns {S : List Addr} {h h' : Heap} {L : Addr} {m : Str → Option Value} (hS : ∀ b ∈ S, Loose h b) (k : KpB S h h') (hL : L < 74) (n : h.Ns L m) : h'.Ns L m := n.at' fun o e => k _ o (fun hm => by
  rcases hS _ hm with x | ⟨h1, _⟩ | ⟨v, h1, _⟩ | ⟨o', e1, d', _⟩
  · rw [e] at x; cases x
  · exact absurd hL (Nat.not_lt.mpr h1)
  · exact absurd hL (Nat.not_lt.mpr h1)
  · obtain ⟨o2, _, _, e2, d2, _⟩ := n
    rw [e1] at e2; cases e2; rw [d'] at d2; cases d2) e
theorem Loose.gnd {S : List Addr} {h h' : Heap} (hS : ∀ b ∈ S, Loose h b) (k : KpB S h h') (G : Gnd h) : Gnd h' where
  lim := by
    obtain ⟨m, n, e⟩ := G.lim
    exact ⟨m, Loose.ns hS k (by decide) n, e⟩
  f21 := Loose.defAt hS k G.f21
  f28 := Loose.defAt hS k G.f28
  f44 := Loose.defAt hS k G.f44
  f49 := Loose.defAt hS k G.f49
  f54 := Loose.defAt hS k G.f54
  f61 := Loose.defAt hS k G.f61
  f68 := Loose.defAt hS k G.f68
  t37 := by
    obtain ⟨o, n, e, d⟩ := G.t37
    refine ⟨o, n, k _ _ (fun hm => ?_) e, d⟩
    rcases hS _ hm with x | ⟨h1, _⟩ | ⟨v, h1, _⟩ | ⟨o', e1, d', h1⟩
    · rw [e] at x; cases x
    · exact absurd h1 (by decide)
    · exact absurd h1 (by decide)
    · exact h1 rfl
  g := let ⟨mg, n, r⟩ := G.g; ⟨mg, Loose.ns hS k (by decide) n, r⟩
  b := let ⟨mb, n, r⟩ := G.b; ⟨mb, Loose.ns hS k (by decide) n, r⟩
theorem Loose.seq {S : List Addr} {h h' : Heap} (hS : ∀ b ∈ S, Loose h b) (k : KpB S h h') : KpS h h' := KpS.b k fun b hb o e vs n d => by
  rcases hS b hb with x | ⟨_, m, o', _, _, e', d', _⟩ | ⟨v, _, o', e', d'⟩ | ⟨o', e', d', _⟩
  · rw [e] at x; cases x
  · rw [e] at e'; cases e'; rw [d] at d'; cases d'
  · rw [e] at e'; cases e'; rw [d] at d'; cases d'
  · rw [e] at e'; cases e'; rw [d] at d'; cases d'
theorem Loose.low {S : List Addr} {h h' : Heap} (hS : ∀ b ∈ S, Loose h b) (k : KpB S h h') {b : Addr} {o : Obj} (hb : b < 74) (e : h.get? b = some o) (hd : o.data ≠ .fields #[]) : h'.get? b = some o := k _ _ (fun hm => by
  rcases hS _ hm with x | ⟨h1, _⟩ | ⟨v, h1, _⟩ | ⟨o', e1, d', _⟩
  · rw [e] at x; cases x
  · exact absurd hb (Nat.not_lt.mpr h1)
  · exact absurd hb (Nat.not_lt.mpr h1)
  · rw [e] at e1; cases e1; exact hd d') e
theorem Loose.gndL {S : List Addr} {h h' : Heap} (hS : ∀ b ∈ S, Loose h b) (k : KpB S h h') (x : GndL h) : GndL h' where
  o36 := let ⟨o, e, d⟩ := x.o36; ⟨o, Loose.low hS k (by decide) e (by rw [d]; intro z; cases z), d⟩
  c72 := by
    obtain ⟨o, vs, file, tf, flags, tg, inF, text, tt, e, e1, e2, e3, r⟩ := x.c72
    refine ⟨o, vs, file, tf, flags, tg, inF, text, tt, Loose.low hS k (by decide) e ?_, e1, e2, e3, r⟩
    rw [e2]; intro z
    have : vs = #[] := by injection z
    rw [this] at e3; cases e3
  o4 := Loose.low hS k (by decide) x.o4 (by intro z; cases z)
  g := let ⟨mg, n, e⟩ := x.g; ⟨mg, Loose.ns hS k (by decide) n, e⟩
end Mine
end
section
open PySem PySem.W PyProof.Rows PySem.SeqAt
set_option maxRecDepth 100000
set_option maxHeartbeats 4000000
namespace Mine
theorem KpF.b {F : List Addr} {h h' : Heap} (k : KpF F h h') : KpB F h h' := k.but
theorem lawFrames {h : Heap} {doc pm cd : Value} {L : Addr} {m : Str → Option Value} (n : h.Ns L m) : h.FunFrames emp [lawEnv doc pm cd L] :=
  Heap.FunFrames.cons (by show (dpAt 12).scope.kind ≠ .module; decide) rfl n (emp_none _) trivial
theorem lawFrs {doc pm cd : Value} {L : Addr} : frs [lawEnv doc pm cd L] = [L] := rfl
theorem loose_ns {h : Heap} {L : Addr} {m : Str → Option Value} (hL : 74 ≤ L) (n : h.Ns L m) : ∀ b ∈ [L], Loose h b := fun b hb => by rw [List.mem_singleton.mp hb]; exact .inr (.inl ⟨hL, m, n⟩)
/-- what reduce with the lambda has made of 1, 2, 3 -/
def LamInv (u₁ u₂ u₃ : Tok) : Nat → Value → Heap → Prop
  | 1, v, _ => v = .int 1 u₁
  | 2, v, h => ∃ r, v = .ref r ∧ h.PlainList r #[.int 1 u₁, .int 2 u₂]
  | 3, v, h => ∃ r r', v = .ref r ∧ h.PlainList r #[.ref r', .int 3 u₃] ∧ h.PlainList r' #[.int 1 u₁, .int 2 u₂]
  | _, _, _ => False
theorem LamInv.upS {u₁ u₂ u₃ : Tok} : ∀ i v h h', KpS h h' → LamInv u₁ u₂ u₃ i v h → LamInv u₁ u₂ u₃ i v h' := by
  intro i v h h' k x
  match i, x with
  | 1, x => exact x
  | 2, ⟨r, e, l⟩ => exact ⟨r, e, plainS k l⟩
  | 3, ⟨r, r', e, l, l'⟩ => exact ⟨r, r', e, plainS k l, plainS k l'⟩
def writtenD : PyData := .list [.list [.int 1, .int 2, .int 3, .int 4, .int 5], .bool false, .list [.list [.int 1, .int 2], .int 3], .list [.int 0]]
section
variable {prog : Program} {w : World} {M : Model} {A : Around} {E : Value → Shared → Prop} {R : Result → Shared → Prop} {s : Shared} {h : Heap} {t : Nat} {env : Env}
theorem law_written {doc pm : Value} {L : Addr} {m : Str → Option Value} {Q : Flow → Shared → Prop} (hA : AOk 8 A) (hfr : A.frames = some [lawEnv doc pm (.ref 72) L]) (hL : 74 ≤ L) (G : Gnd h) (GL : GndL h) (hP : h.get? 70 = some (tabObj #[])) (n : h.Ns L m)
    (q : ∀ D as c' h' t', KpB [70, L] h h' → h'.get? 70 = some (tabObj #[rawInt lam.pos.line, rawInt lam.pos.col, .ref c']) → Reads h' (.ref D) writtenD as → h'.Ns L (fun z => if z = Str.ofString "written" then some (.ref D) else m z) → Q .next (st s h' t')) :
    wpAny (model prog w) A (exec (lst 7) (lawEnv doc pm (.ref 72) L)) Q E (st s h t) := by
  have hL70 : L ≠ 70 := fun e => by rw [e] at hL; exact absurd hL (by decide)
  refine wpAny_Assign_Name (List_ (args_cons (ev_call1 G G.f21 (List_ (args_cons (ev_int fun u₁ t₁ => args_cons (ev_int fun u₂ t₂ => args_cons (ev_int fun u₃ t₃ => args_cons (ev_int fun u₄ t₄ => args_cons (ev_int fun u₅ t₅ => args_cons (ev_int fun u₆ t₆ => args_nil (ev_newList fun r₁ h₁ k₁ hr₁ l₁ => ⟨k₁, ?_⟩))))))))))))
  refine dedup_spec kInt (ps := [(.int 1 u₁, 1), (.int 2 u₂, 2), (.int 3 u₃, 3), (.int 4 u₄, 4), (.int 5 u₅, 5), (.int 1 u₆, 1)]) (hA.less (by omega)) (G.mono k₁).lim (G.mono k₁).f21 l₁.isList (fun p hp => ?_) (by simp) fun r₂ h₂ t₂' k₂ hr₂ l₂ => ?_
  · simp only [List.mem_cons, List.not_mem_nil, or_false] at hp
    rcases hp with rfl | rfl | rfl | rfl | rfl | rfl <;> exact ⟨_, rfl⟩
  have k02 := k₁.trans k₂
  -- _compare_args_orderless([1, 2], [1, 3])
  refine args_cons (ev_call2 (G.mono k02) (G.mono k02).f28 (List_ (args_cons (ev_int fun v₁ s₁ => args_cons (ev_int fun v₂ s₂ => args_nil (ev_newList fun r₃ h₃ k₃ hr₃ l₃ => ?_))))))
  refine List_ (args_cons (ev_int fun v₃ s₃ => args_cons (ev_int fun v₄ s₄ => args_nil (ev_newList fun r₄ h₄ k₄ hr₄ l₄ => ⟨k₃.trans k₄, ?_⟩))))
  have k04 := (k02.trans k₃).trans k₄
  have n₄ := n.keeps k04
  refine compare_spec kInt (ps := [(.int 1 v₁, 1), (.int 2 v₂, 2)]) (qs := [(.int 1 v₃, 1), (.int 3 v₄, 3)]) (hA.less (by omega)) hfr (lawFrames n₄) (G.mono k04) (plain_kp k₄ l₃).isList (fun p hp => ?_) l₄.isList (fun p hp => ?_) (by simp) (by simp) fun h₅ t₅' kF => ?_
  · simp only [List.mem_cons, List.not_mem_nil, or_false] at hp
    rcases hp with rfl | rfl <;> exact ⟨_, rfl⟩
  · simp only [List.mem_cons, List.not_mem_nil, or_false] at hp
    rcases hp with rfl | rfl <;> exact ⟨_, rfl⟩
  rw [lawFrs] at kF
  have lo₄ := loose_ns hL n₄
  have G₅ : Gnd h₅ := Loose.gnd lo₄ kF.b (G.mono k04)
  have GL₅ : GndL h₅ := Loose.gndL lo₄ kF.b (GL.mono k04)
  have n₅ : h₅.Ns L m := kF.ns n₄
  have P₅ : h₅.get? 70 = some (tabObj #[]) := kF.but _ _ (by simpa using hL70.symm) (k04 _ _ hP)
  have l₅ := plainS ((KpS.kp (k₃.trans k₄)).trans (Loose.seq lo₄ kF.b)) l₂
  -- reduce(lambda a, b: [a, b], [1, 2, 3])
  obtain ⟨o44, doc44, pm44, cd44, ho44, hd44, _⟩ := id G₅.f44
  refine args_cons (Call_ (ev_global (a := 44) G₅ (callWith_def hd44 (args_cons (ev_lam GL₅ P₅ fun f c' h₆ t₆' k₆ P₆ F₆ => ?_)))))
  have lo₅ : ∀ b ∈ [70], Loose h₅ b := fun b hb => by rw [List.mem_singleton.mp hb]; exact .inr (.inr (.inr ⟨_, P₅, rfl, by decide⟩))
  have G₆ : Gnd h₆ := Loose.gnd lo₅ k₆ G₅
  have GL₆ : GndL h₆ := Loose.gndL lo₅ k₆ GL₅
  have n₆ : h₆.Ns L m := n₅.at' fun o e => k₆ _ o (by simpa using hL70) e
  have l₆ := plainS (Loose.seq lo₅ k₆) l₅
  have h44₆ := k₆ _ _ (by decide) ho44
  refine args_cons (List_ (args_cons (ev_int (s := s) (h := h₆) fun w₁ s₅ => args_cons (ev_int fun w₂ s₆ => args_cons (ev_int fun w₃ s₇ => args_nil (ev_newList fun r₅ h₇ k₇ hr₅ l₇ => args_nil ⟨k₇ _ _ h44₆, ?_⟩))))))
  have F₇ := F₆.mono k₇
  have G₇ := G₆.mono k₇
  refine reduce_gen (vs := [.int 1 w₁, .int 2 w₂, .int 3 w₃]) (LamInv w₁ w₂ w₃) LamInv.upS (hA.less (by omega)) G₇ (let ⟨q, pm, cd, ct, e, _⟩ := F₇; ⟨_, _, e, rfl⟩) l₇.isList rfl rfl (fun B i v x h₈ t₈ E' Q' hB hx k₈ iv qq => ?_) fun v₅ h₈ t₈ k₈ iv => ?_
  · refine lam_spec (hB.less (by omega)) (G₇.mono k₈).lim (F₇.mono k₈) fun r h₉ t₉ k₉ hr l₉ => ?_
    match i, iv with
    | 1, iv =>
      cases hx
      subst iv
      exact qq _ h₉ t₉ k₉ ⟨r, rfl, l₉⟩
    | 2, ⟨r', e, l⟩ =>
      cases hx
      subst e
      exact qq _ h₉ t₉ k₉ ⟨r, r', rfl, l₉, plain_kp k₉ l⟩
    | 3, _ => exact absurd hx (by simp)
  obtain ⟨ra, rb, rfl, la, lb⟩ := iv
  -- reduce(_law_lesser, [], [0])
  have k78 := k₇.trans k₈
  have G₈ := G₆.mono k78
  have GL₈ := GL₆.mono k78
  have n₈ := n₆.keeps k78
  have l₈ := plain_kp k78 l₆
  have h44₈ := k78 _ _ h44₆
  refine args_cons (Call_ (ev_global (a := 44) G₈ (callWith_def hd44 (args_cons (ev_global (a := 61) G₈ (args_cons (List_ (args_nil (ev_newList (vs := []) (s := s) (h := h₈) fun r₆ h₉ k₉ hr₆ l₉ => ?_)))))))))
  refine args_cons (List_ (args_cons (ev_int (s := s) (h := h₉) fun w₄ s₈ => args_nil (ev_newList fun r₇ ha ka hr₇ lz => args_nil ⟨(k₉.trans ka) _ _ h44₈, ?_⟩))))
  have k8a := k₉.trans ka
  obtain ⟨o36, e36, _⟩ := GL₈.o36
  refine reduce_none (hA.less (by omega)) (G₈.mono k8a) ⟨o36, k8a _ _ e36⟩ (plain_kp ka l₉) lz (ne_of_none (k₉ _ _ e36) hr₇).symm fun hc tc kc => ?_
  have k8c := k8a.trans kc
  refine args_nil (ev_newList (s := s) (h := hc) fun D hd kd hD ld => ?_)
  have k8d := k8c.trans kd
  have n_d := n₈.keeps k8d
  refine st_local n_d fun he ne be => ?_
  have ks : KpS hd he := KpS.ns n_d (KpB.same be)
  have kS8 : KpS h₈ he := (KpS.kp k8d).trans ks
  have P_e : he.get? 70 = some (tabObj #[rawInt lam.pos.line, rawInt lam.pos.col, .ref c']) := (be.2 70 hL70.symm).trans (k8d _ _ (k78 _ _ P₆))
  have le := plainS ks ld
  have e1 : (dd ([(.int 1 u₁, 1), (.int 2 u₂, 2), (.int 3 u₃, 3), (.int 4 u₄, 4), (.int 5 u₅, 5), (.int 1 u₆, 1)] : List (Value × Int))).map (·.1) = [.int 1 u₁, .int 2 u₂, .int 3 u₃, .int 4 u₄, .int 5 u₅] := by rfl
  rw [e1] at l₈
  have e2 : cmpRes (dd ([(.int 1 v₁, 1), (.int 2 v₂, 2)] : List (Value × Int))) (dd ([(.int 1 v₃, 1), (.int 3 v₄, 3)] : List (Value × Int))) = false := by rfl
  rw [e2] at le
  have R1 : Reads he (.ref r₂) (.list [.int 1, .int 2, .int 3, .int 4, .int 5]) _ := reads_plain (plainS kS8 l₈) (readsAll_of_ints (.cons 1 u₁ (.cons 2 u₂ (.cons 3 u₃ (.cons 4 u₄ (.cons 5 u₅ .nil))))))
  have R3 : Reads he (.ref ra) (.list [.list [.int 1, .int 2], .int 3]) _ := reads_plain (vs := [.ref rb, .int 3 w₃]) (plainS kS8 la) (.cons (reads_plain (vs := [.int 1 w₁, .int 2 w₂]) (plainS kS8 lb) (readsAll_of_ints (.cons 1 w₁ (.cons 2 w₂ .nil)))) (.cons (.int 3 w₃) .nil))
  have R4 : Reads he (.ref r₇) (.list [.int 0]) _ := reads_plain (plainS ((KpS.kp (kc.trans kd)).trans ks) lz) (readsAll_of_ints (.cons 0 w₄ .nil))
  refine q D _ c' he _ (fun b o hb e => ?_) P_e (reads_plain le (.cons R1 (.cons (.bool false) (.cons R3 (.cons R4 .nil))))) ne
  simp only [List.mem_cons, List.not_mem_nil, or_false, not_or] at hb
  exact (be.2 b hb.2).trans (k8d _ _ (k78 _ _ (k₆ b o (by simpa using hb.1) (kF.but b o (by simpa using hb.2) (k04 _ _ e)))))
end
end Mine
end
section
open PySem PySem.W PyProof.Rows PySem.SeqAt
set_option maxRecDepth 100000
set_option maxHeartbeats 4000000
namespace Mine
section
variable {prog : Program} {w : World} {M : Model} {A : Around} {E : Value → Shared → Prop} {R : Result → Shared → Prop} {s : Shared} {h : Heap} {t : Nat} {env : Env}
theorem wr_eq : PyData.eqv writtenD writtenD = true := by decide +kernel
theorem wr_lay : writtenD.canLay0 = true := by decide +kernel
theorem wr_deep : writtenD.depth ≤ 20 := by decide +kernel
theorem law_test2 {doc pm cd : Value} {L D : Addr} {as : List Addr} {m : Str → Option Value} {Q : Flow → Shared → Prop} (hA : AOk 7 A) (n : h.Ns L m) (hm : m (Str.ofString "written") = some (.ref D)) (hr : Reads h (.ref D) writtenD as)
    (q : ∀ h' t', Kp h h' → Q .next (st s h' t')) : wpAny (model prog w) A (exec (lst 8) (lawEnv doc pm cd L)) Q E (st s h t) := by
  refine wpAny_If (wpAny_isTrue_Compare1 (ev_local n hm (List_ (args_cons ?_))) (by rfl))
  refine List_ (args_cons (ev_int fun u₁ t₁ => ?_))
  refine args_cons (ev_int fun u₂ t₂ => ?_)
  refine args_cons (ev_int fun u₃ t₃ => ?_)
  refine args_cons (ev_int fun u₄ t₄ => ?_)
  refine args_cons (ev_int fun u₅ t₅ => args_nil (ev_newList fun r₁ h₁ k₁ hr₁ l₁ => ?_))
  refine args_cons (ev_bool (args_cons ?_))
  refine List_ (args_cons (List_ (args_cons (ev_int (s := s) (h := h₁) fun w₁ s₁ => ?_))))
  refine args_cons (ev_int fun w₂ s₂ => args_nil (ev_newList fun r₂ h₂ k₂ hr₂ l₂ => ?_))
  refine args_cons (ev_int (s := s) (h := h₂) fun w₃ s₃ => args_nil (ev_newList fun r₃ h₃ k₃ hr₃ l₃ => ?_))
  refine args_cons (List_ (args_cons (ev_int (s := s) (h := h₃) fun w₄ s₄ => ?_)))
  refine args_nil (ev_newList fun r₄ h₄ k₄ hr₄ l₄ => args_nil (ev_newList (s := s) (h := h₄) fun r₅ h₅ k₅ hr₅ l₅ => ?_))
  have k25 := (k₃.trans k₄).trans k₅
  have k15 := k₂.trans k25
  have R1 : Reads h₅ (.ref r₁) (.list [.int 1, .int 2, .int 3, .int 4, .int 5]) _ := reads_plain (plain_kp k15 l₁) (readsAll_of_ints (.cons 1 u₁ (.cons 2 u₂ (.cons 3 u₃ (.cons 4 u₄ (.cons 5 u₅ .nil))))))
  have R3 : Reads h₅ (.ref r₃) (.list [.list [.int 1, .int 2], .int 3]) _ := reads_plain (vs := [.ref r₂, .int 3 w₃]) (plain_kp (k₄.trans k₅) l₃) (.cons (reads_plain (vs := [.int 1 w₁, .int 2 w₂]) (plain_kp k25 l₂) (readsAll_of_ints (.cons 1 w₁ (.cons 2 w₂ .nil)))) (.cons (.int 3 w₃) .nil))
  have R4 : Reads h₅ (.ref r₄) (.list [.int 0]) _ := reads_plain (plain_kp k₅ l₄) (readsAll_of_ints (.cons 0 w₄ .nil))
  refine do_ne (s := s) (h := h₅) (db := writtenD) (Reads.keeps (k₁.trans k15) hr) (reads_plain l₅ (.cons R1 (.cons (.bool false) (.cons R3 (.cons R4 .nil))))) wr_lay wr_lay wr_deep (by have := hA.hu; omega) ?_
  rw [wr_eq]
  exact wpAny_truthy_bool (wpAny_execs_nil (q h₅ _ (k₁.trans k15)))
end
end Mine
end
section
open PySem PySem.W PyProof.Rows PySem.SeqAt
set_option maxRecDepth 100000
set_option maxHeartbeats 4000000
namespace Mine
def bits : Nat → List (List Int)
  | 0 => [[]]
  | n + 1 => (bits n).flatMap fun l => [0 :: l, 1 :: l]
/-- the thirty rows -/
def allRows : List (List Int) := (List.range 4).flatMap fun n => bits (n + 1)
theorem mem_bits : ∀ (l : List Int), (∀ x ∈ l, x = 0 ∨ x = 1) → l ∈ bits l.length
  | [], _ => List.mem_singleton.mpr rfl
  | x :: l, h => by
    have ih := mem_bits l fun y hy => h y (.tail _ hy)
    refine List.mem_flatMap.mpr ⟨l, ih, ?_⟩
    rcases h x (.head _) with e | e <;> rw [e] <;> simp
theorem row_mem (x : Int) : rowOf x ∈ allRows := by
  have hm0 : 0 ≤ x.fmod 4 := Int.fmod_nonneg_of_pos _ (by decide)
  have hm4 : x.fmod 4 < 4 := Int.fmod_lt_of_pos _ (by decide)
  have hlen : (rowOf x).length = (x.fmod 4).toNat + 1 := by unfold rowOf; rw [List.length_map, List.length_range]; omega
  refine List.mem_flatMap.mpr ⟨(x.fmod 4).toNat, List.mem_range.mpr (by omega), ?_⟩
  rw [← hlen]
  refine mem_bits _ fun y hy => ?_
  obtain ⟨i, _, rfl⟩ := List.mem_map.mp hy
  have h0 : 0 ≤ ((x.fdiv 4).fdiv (2 ^ i)).fmod 2 := Int.fmod_nonneg_of_pos _ (by decide)
  have h2 : ((x.fdiv 4).fdiv (2 ^ i)).fmod 2 < 2 := Int.fmod_lt_of_pos _ (by decide)
  omega
/-- a row's root's size -/
def sz (ns : List Int) : Nat := ((bgs ns)[0]?).getD 0 + 1
def pI (ns : List Int) : List (Nat × List Int) := (List.range ns.length).map fun i => (i, rot i ns)
def un {D : Type} (l : List D) : List (Unit × D) := l.map fun c => ((), c)
def dc (l : List (List Int)) : List (List Int) := (dd (un l)).map (·.2)
def cmpC (l r : List (List Int)) : Bool := cmpRes (dd (un l)) (dd (un r))
def bI (ns : List Int) : Nat := (best (0, []) (pI ns)).1
def bC (ns : List Int) : List Int := (best ((), []) (un (rots ns))).2
theorem rows_len : ∀ ns ∈ allRows, ns ≠ [] ∧ ns.length ≤ 4 := by decide +kernel
theorem rows_size : ∀ ns ∈ allRows, (bgs ns)[0]? = some (sz ns - 1) ∧ sz ns ≤ ns.length ∧ 0 < sz ns := by decide +kernel
theorem rows_once : ∀ ns ∈ allRows, dd (pI ns) = (pI ns).take (sz ns) := by decide +kernel
theorem rows_best : ∀ ns ∈ allRows, bI ns < ns.length ∧ rot (bI ns) ns = bC ns ∧ best (0, []) (pI ns) = (bI ns, bC ns) ∧ ∀ m ∈ List.range (bI ns), rot m ns ≠ bC ns := by decide +kernel
theorem rows_cmp1 : ∀ ns ∈ allRows, cmpC ((rots ns).drop 1) (rots ns) = decide (sz ns < ns.length) ∧ cmpC (rots ns) ((rots ns).drop 1) = decide (sz ns < ns.length) := by decide +kernel
theorem rows_cmp2 : ∀ ns ∈ allRows, ∀ ms ∈ allRows, cmpC (rots ns) (rots ms) = decide (bC ns = bC ms) := by decide +kernel
theorem rows_dd2 : ∀ ns ∈ allRows, ∀ ms ∈ allRows, dc (rots ms ++ rots ns) = dc (rots ms) ++ (if bC ns = bC ms then [] else dc (rots ns)) := by decide +kernel
theorem rows_key : ∀ ns ∈ allRows, ∀ ms ∈ allRows, (jn ns ms == 0) = decide (ns.take (sz ns) = ms.take (sz ms)) := by decide +kernel
end Mine
end
section
open PySem PySem.W PyProof.Rows PySem.SeqAt
set_option maxRecDepth 100000
set_option maxHeartbeats 4000000
namespace Mine
theorem un_map {α : Type} (ps : List (α × List Int)) : un (ps.map (·.2)) = ps.map fun p => ((fun _ => ()) p.1, p.2) := by
  unfold un; rw [List.map_map]; rfl
theorem dd_un {α : Type} (ps : List (α × List Int)) : (dd ps).map (·.2) = dc (ps.map (·.2)) := by
  unfold dc
  rw [un_map, show dd (ps.map fun p => ((fun _ => ()) p.1, p.2)) = (dd ps).map fun p => ((fun _ => ()) p.1, p.2) from dd_map (fun _ : α => ()) ps, List.map_map]; rfl
theorem cmp_un {α β : Type} (ps : List (α × List Int)) (qs : List (β × List Int)) : cmpRes (dd ps) (dd qs) = cmpC (ps.map (·.2)) (qs.map (·.2)) := by
  unfold cmpC
  rw [un_map, un_map, show dd (ps.map fun p => ((fun _ => ()) p.1, p.2)) = (dd ps).map fun p => ((fun _ => ()) p.1, p.2) from dd_map (fun _ : α => ()) ps,
    show dd (qs.map fun p => ((fun _ => ()) p.1, p.2)) = (dd qs).map fun p => ((fun _ => ()) p.1, p.2) from dd_map (fun _ : β => ()) qs]
  exact (cmpRes_map (fun _ => ()) (fun _ => ()) (dd ps) (dd qs)).symm
theorem foldl_pick_map {α β : Type} (f : α → β) : ∀ (ps : List (α × List Int)) (d : α × List Int), (ps.map fun p => (f p.1, p.2)).foldl pick (f d.1, d.2) = (f (ps.foldl pick d).1, (ps.foldl pick d).2)
  | [], d => rfl
  | p :: r, d => by
    show (r.map fun p => (f p.1, p.2)).foldl pick (pick (f d.1, d.2) (f p.1, p.2)) = _
    have e : pick (f d.1, d.2) (f p.1, p.2) = (f (pick d p).1, (pick d p).2) := by
      unfold pick
      show (if lexLt p.2 d.2 = true then (f p.1, p.2) else (f d.1, d.2)) = _
      split <;> rfl
    rw [e]
    exact foldl_pick_map f r (pick d p)
theorem best_map {α β : Type} (f : α → β) (d : α × List Int) (ps : List (α × List Int)) : best (f d.1, d.2) (ps.map fun p => (f p.1, p.2)) = (f (best d ps).1, (best d ps).2) := by
  cases ps with
  | nil => rfl
  | cons p r => exact foldl_pick_map f r p
theorem best_un {α : Type} (d : α × List Int) (ps : List (α × List Int)) (hd : d.2 = []) : (best d ps).2 = (best ((), []) (un (ps.map (·.2)))).2 := by
  rw [un_map]
  have := best_map (fun _ : α => ()) d ps
  rw [hd] at this
  rw [this]
/-- turnings by their places -/
theorem ps_form {ps : List (Value × List Int)} {ns : List Int} (h : ps.map (·.2) = rots ns) : ps = (pI ns).map fun p => ((fun i => (ps.getD i d0).1) p.1, p.2) := by
  have hl : ps.length = ns.length := by
    have := congrArg List.length h
    unfold rots at this
    simpa using this
  unfold pI
  rw [List.map_map]
  refine List.ext_getElem (by simp [hl]) fun i h1 h2 => ?_
  have hi : (ps.map (·.2))[i]? = (rots ns)[i]? := by rw [h]
  have hin : i < ns.length := by omega
  unfold rots at hi
  simp [h1, hin] at hi
  simp only [List.getElem_map, List.getElem_range, Function.comp, List.getD_eq_getElem?_getD, List.getElem?_eq_getElem h1, Option.getD_some]
  rw [← hi]
theorem ps_len {ps : List (Value × List Int)} {ns : List Int} (h : ps.map (·.2) = rots ns) : ps.length = ns.length := by
  have := congrArg List.length h
  unfold rots at this
  simpa using this
theorem ps_once {ps : List (Value × List Int)} {ns : List Int} (hn : ns ∈ allRows) (h : ps.map (·.2) = rots ns) : dd ps = ps.take (sz ns) := by
  have e := ps_form h
  generalize (fun i => (ps.getD i d0).1) = f at e
  rw [e, dd_map, rows_once ns hn, List.map_take]
theorem ps_best {ps : List (Value × List Int)} {ns : List Int} (hn : ns ∈ allRows) (h : ps.map (·.2) = rots ns) : ps[bI ns]? = some (best d0 ps) ∧ (best d0 ps).2 = bC ns ∧ ∀ m (hm : m < ps.length), m < bI ns → (ps[m]).2 ≠ bC ns := by
  obtain ⟨h1, h2, h3, h4⟩ := rows_best ns hn
  have hl := ps_len h
  have hne : pI ns ≠ [] := by
    intro z
    have := congrArg List.length z
    unfold pI at this
    simp at this
    rw [this] at h1
    exact absurd h1 (Nat.not_lt_zero _)
  have at' : ∀ m (hm : m < ps.length), (ps[m]).2 = rot m ns := fun m hm => by
    have hi : (ps.map (·.2))[m]? = (rots ns)[m]? := by rw [h]
    unfold rots at hi
    have hmn : m < ns.length := by omega
    simp [hm, hmn] at hi
    exact hi
  have e := ps_form h
  have bb : best d0 ps = ((ps.getD (bI ns) d0).1, bC ns) := by
    have b1 := best_map (fun i => (ps.getD i d0).1) (0, []) (pI ns)
    rw [h3] at b1
    rw [← e] at b1
    have : best ((fun i => (ps.getD i d0).1) 0, []) ps = best d0 ps := by
      cases hps : ps with
      | nil => rw [hps] at hl; rw [← hl] at h1; exact absurd h1 (Nat.not_lt_zero _)
      | cons p r => rfl
    rw [← this]
    exact b1
  have hb : bI ns < ps.length := by omega
  refine ⟨?_, by rw [bb], fun m hm hmb => ?_⟩
  · rw [List.getElem?_eq_getElem hb, bb]
    have : ps.getD (bI ns) d0 = ps[bI ns] := by rw [List.getD_eq_getElem?_getD, List.getElem?_eq_getElem hb]; rfl
    rw [this]
    have e2 := at' _ hb
    rw [h2] at e2
    rw [← e2]
  · rw [at' m hm]
    exact h4 m (List.mem_range.mpr hmb)
theorem ps_cmp1 {ps : List (Value × List Int)} {ns : List Int} (hn : ns ∈ allRows) (h : ps.map (·.2) = rots ns) : cmpRes (dd (ps.drop 1)) (dd ps) = decide (sz ns < ns.length) ∧ cmpRes (dd ps) (dd (ps.drop 1)) = decide (sz ns < ns.length) := by
  rw [cmp_un, cmp_un, List.map_drop, h]
  exact rows_cmp1 ns hn
theorem ps_cmp2 {ps qs : List (Value × List Int)} {ns ms : List Int} (hn : ns ∈ allRows) (hm : ms ∈ allRows) (h : ps.map (·.2) = rots ns) (h' : qs.map (·.2) = rots ms) : cmpRes (dd ps) (dd qs) = decide (bC ns = bC ms) := by
  rw [cmp_un, h, h']
  exact rows_cmp2 ns hn ms hm
theorem ps_dd2 {ps qs : List (Value × List Int)} {ns ms : List Int} (hn : ns ∈ allRows) (hm : ms ∈ allRows) (h : ps.map (·.2) = rots ns) (h' : qs.map (·.2) = rots ms) :
    (dd (qs ++ ps)).map (·.2) = (dd qs).map (·.2) ++ (if bC ns = bC ms then [] else (dd ps).map (·.2)) := by
  rw [dd_un, dd_un, dd_un, List.map_append, h, h']
  exact rows_dd2 ns hn ms hm
end Mine
end
section
open PySem PySem.W PyProof.Rows PySem.SeqAt
set_option maxRecDepth 100000
set_option maxHeartbeats 4000000
namespace Mine
/-- what of the law's frame does not turn -/
structure LawE (env : Env) (L : Addr) : Prop where
  loc : env.locals = L
  fn : env.scope.kind = .function
  glob : env.globals = mainGlobals
  bi : env.builtins = builtinsNs
  cls : (env.scope.kind == .class || (env.scope.kind == .module && env.locals != env.globals)) = false
  ci : env.cells.lookup (Str.ofString "i") = some (L + 1)
  ct : env.cells.lookup (Str.ofString "turned") = some (L + 2)
  co : env.cells.lookup (Str.ofString "once") = some (L + 3)
  ki : env.kindOf (Str.ofString "i") = some .cell
  kt : env.kindOf (Str.ofString "turned") = some .cell
  ko : env.kindOf (Str.ofString "once") = some .cell
  krows : env.kindOf (Str.ofString "rows") = some .local
  kleast : env.kindOf (Str.ofString "least") = some .local
  ksize : env.kindOf (Str.ofString "size") = some .local
  kkey : env.kindOf (Str.ofString "key") = some .local
  krep : env.kindOf (Str.ofString "repeated") = some .local
  kj : env.kindOf (Str.ofString "j") = some .local
  kalike : env.kindOf (Str.ofString "alike") = some .local
  glen : env.kindOf (Str.ofString "len") = some .globalImplicit
  gmin : env.kindOf (Str.ofString "min") = some .globalImplicit
  grange : env.kindOf (Str.ofString "range") = some .globalImplicit
  gdd : env.kindOf (Str.ofString "_deduplicate_unhashable") = some .globalImplicit
  gcmp : env.kindOf (Str.ofString "_compare_args_orderless") = some .globalImplicit
theorem lawE {doc pm cd : Value} {L : Addr} : LawE (lawEnv doc pm cd L) L := ⟨rfl, rfl, rfl, rfl, rfl, rfl, rfl, rfl, rfl, rfl, rfl, rfl, rfl, rfl, rfl, rfl, rfl, rfl, rfl, rfl, rfl, rfl, rfl⟩
/-- the law's data -/
structure Dat where
  R : Addr
  T : Addr
  O : Addr
  Le : Addr
  Z : Addr
  C : Addr
  Lk : Addr
  k : Nat
  N : Nat → List Int
  f : Nat → Value
  g : Nat → Value
  o : Nat → Addr
  ps : Nat → List (Value × List Int)
  u : Nat → Tok
structure DatOk (D : Dat) (h : Heap) : Prop where
  rows : h.PlainList D.R ((List.range D.k).map D.f).toArray
  turned : h.PlainList D.T ((List.range D.k).map D.g).toArray
  once : h.PlainList D.O ((List.range D.k).map fun i => Value.ref (D.o i)).toArray
  least : h.PlainList D.Le ((List.range D.k).map fun i => (best d0 (D.ps i)).1).toArray
  size : h.PlainList D.Z ((List.range D.k).map fun i => Value.int (sz (D.N i) : Int) (D.u i)).toArray
  row : ∀ i, i < D.k → RowAt h (D.f i) (D.N i)
  tn : ∀ i, i < D.k → RowsG (fun _ => True) h (D.g i) (D.ps i)
  on : ∀ i, i < D.k → h.PlainList (D.o i) ((dd (D.ps i)).map (·.1)).toArray
theorem DatOk.upS {D : Dat} {h h' : Heap} (k : KpS h h') (x : DatOk D h) : DatOk D h' :=
  ⟨plainS k x.rows, plainS k x.turned, plainS k x.once, plainS k x.least, plainS k x.size, fun i hi => (x.row i hi).monoS k, fun i hi => (x.tn i hi).upS k, fun i hi => plainS k (x.on i hi)⟩
/-- what needs no heap -/
structure DatPlain (D : Dat) (L : Addr) : Prop where
  low : 74 ≤ L
  few : D.k ≤ 5
  row : ∀ i, i < D.k → D.N i ∈ allRows
  ps : ∀ i, i < D.k → (D.ps i).map (·.2) = rots (D.N i)
  lk : D.Lk + 1 ≠ L ∧ D.Lk + 1 ≠ L + 1
/-- the names that stay -/
structure MV (D : Dat) (m : Str → Option Value) : Prop where
  rows : m (Str.ofString "rows") = some (.ref D.R)
  least : m (Str.ofString "least") = some (.ref D.Le)
  size : m (Str.ofString "size") = some (.ref D.Z)
  key : m (Str.ofString "key") = some (.ref D.C)
  init : m (Str.ofString "__init__") = none
theorem MV.set {D : Dat} {m : Str → Option Value} {x : Str} {v : Value} (X : MV D m) (hx : x ∉ [Str.ofString "rows", Str.ofString "least", Str.ofString "size", Str.ofString "key", Str.ofString "__init__"]) : MV D (fun y => if y = x then some v else m y) := by
  simp only [List.mem_cons, List.not_mem_nil, or_false, not_or] at hx
  exact ⟨(if_neg (Ne.symm hx.1)).trans X.rows, (if_neg (Ne.symm hx.2.1)).trans X.least, (if_neg (Ne.symm hx.2.2.1)).trans X.size, (if_neg (Ne.symm hx.2.2.2.1)).trans X.key, (if_neg (Ne.symm hx.2.2.2.2)).trans X.init⟩
structure LS (D : Dat) (L : Addr) (h : Heap) (m : Str → Option Value) : Prop where
  G : Gnd h
  ns : h.Ns L m
  mv : MV D m
  ci : ∃ v, h.IsCell (L + 1) v
  ct : h.IsCell (L + 2) (some (.ref D.T))
  co : h.IsCell (L + 3) (some (.ref D.O))
  KO : KeyOk h D.Lk D.C
  dat : DatOk D h
theorem ad (L : Nat) : L + 1 ≠ L ∧ L + 2 ≠ L ∧ L + 2 ≠ L + 1 ∧ L + 3 ≠ L ∧ L + 3 ≠ L + 1 := by omega
theorem LS.loose {D : Dat} {L : Addr} {h : Heap} {m : Str → Option Value} {S : List Addr} (P : DatPlain D L) (X : LS D L h m) (hS : ∀ b ∈ S, b ∈ [L, L + 1] ∨ h.get? b = none) : ∀ b ∈ S, Loose h b := fun b hb => by
  rcases hS b hb with hm | e
  · rcases List.mem_cons.mp hm with rfl | hm
    · exact .inr (.inl ⟨P.low, m, X.ns⟩)
    · rw [List.mem_singleton.mp hm]
      obtain ⟨v, c⟩ := X.ci
      exact .inr (.inr (.inl ⟨v, Nat.le_succ_of_le P.low, c⟩))
  · exact .inl e
theorem LS.apart {D : Dat} {L : Addr} {h : Heap} {m : Str → Option Value} {S : List Addr} (X : LS D L h m) (hS : ∀ b ∈ S, b ∈ [L, L + 1] ∨ h.get? b = none) : ∀ b ∈ S, Apart h b := fun b hb => by
  rcases hS b hb with hm | e
  · rcases List.mem_cons.mp hm with rfl | hm
    · exact .inr (.inr (.inl ⟨m, X.ns, X.mv.init⟩))
    · rw [List.mem_singleton.mp hm]
      obtain ⟨v, c⟩ := X.ci
      exact .inr (.inl ⟨v, c⟩)
  · exact .inl e
theorem LS.step {D : Dat} {L : Addr} {h h' : Heap} {m m' : Str → Option Value} {S : List Addr} (P : DatPlain D L) (X : LS D L h m) (hS : ∀ b ∈ S, b ∈ [L, L + 1] ∨ h.get? b = none) (k : KpB S h h') (n' : h'.Ns L m') (mv' : MV D m') (ci' : ∃ v, h'.IsCell (L + 1) v) : LS D L h' m' := by
  have lo := X.loose P hS
  have off : ∀ {c : Addr} {v : Option Value}, c ≠ L → c ≠ L + 1 → h.IsCell c v → h'.IsCell c v := fun {c v} h1 h2 ⟨o, e, d⟩ => ⟨o, k _ _ (fun hm => by
    rcases hS _ hm with hm | e'
    · simp only [List.mem_cons, List.not_mem_nil, or_false] at hm
      exact hm.elim h1 h2
    · rw [e] at e'; cases e') e, d⟩
  exact ⟨Loose.gnd lo k X.G, n', mv', ci', off (ad L).2.1 (ad L).2.2.1 X.ct, off (ad L).2.2.2.1 (ad L).2.2.2.2 X.co, ⟨X.KO.cls.apart (X.apart hS) k, off P.lk.1 P.lk.2 X.KO.cell⟩, X.dat.upS (Loose.seq lo k)⟩
theorem LS.mono {D : Dat} {L : Addr} {h h' : Heap} {m : Str → Option Value} (P : DatPlain D L) (X : LS D L h m) (k : Kp h h') : LS D L h' m :=
  X.step (S := []) P (fun _ h => nomatch h) (KpB.of k) (X.ns.keeps k) X.mv (let ⟨v, c⟩ := X.ci; ⟨v, c.keeps k⟩)
theorem LS.frame {D : Dat} {L : Addr} {h h' : Heap} {m : Str → Option Value} (P : DatPlain D L) (X : LS D L h m) (k : KpF [L] h h') : LS D L h' m :=
  X.step (S := [L]) P (fun b hb => .inl (by simp [List.mem_singleton.mp hb])) k.but (k.ns X.ns) X.mv (let ⟨v, o, e, d⟩ := X.ci; ⟨v, o, k.but _ _ (by simp) e, d⟩)
theorem LS.store {D : Dat} {L : Addr} {h h' : Heap} {m m' : Str → Option Value} (P : DatPlain D L) (X : LS D L h m) (k : Heap.SameBut L h h') (n' : h'.Ns L m') (mv' : MV D m') : LS D L h' m' :=
  X.step (S := [L]) P (fun b hb => .inl (by simp [List.mem_singleton.mp hb])) (KpB.same k) n' mv' (let ⟨v, c⟩ := X.ci; ⟨v, c.sameBut k (ad L).1⟩)
theorem range_at {α : Type} {f : Nat → α} {n i : Nat} (hi : i < n) : ((List.range n).map f)[i]? = some (f i) := by simp [hi]
/-- an expression that tells a value and turns nothing -/
def Tells (prog : Program) (w : World) (A : Around) (s : Shared) (env : Env) (h : Heap) (e : Expr) (v : Value) : Prop :=
  ∀ (t : Nat) (Q : Value → Shared → Prop) (E : Value → Shared → Prop), Q v (st s h t) → wpAny (model prog w) A (eval e env) Q E (st s h t)
section
variable {prog : Program} {w : World} {A : Around} {E : Value → Shared → Prop} {R : Result → Shared → Prop} {s : Shared} {h : Heap} {t : Nat} {env : Env} {L : Addr} {m : Str → Option Value} {D : Dat}
theorem Tells.local {x : Str} {p : Pos} {v : Value} (LE : LawE env L) (n : h.Ns L m) (hm : m x = some v) (hl : env.kindOf x = some .local) (hd : (x == ("__debug__" : Str)) = false := by decide) : Tells prog w A s env h (.Name x p) v :=
  fun _ _ _ q => ev_local n hm q LE.loc LE.fn hl hd
theorem Tells.cell {x : Str} {p : Pos} {c : Addr} {v : Value} (LE : LawE env L) (hc : env.cells.lookup x = some c) (hv : h.IsCell c (some v)) (hl : env.kindOf x = some .cell) (hd : (x == ("__debug__" : Str)) = false := by decide) : Tells prog w A s env h (.Name x p) v :=
  fun _ _ _ q => ev_cell hc hv q LE.fn hl hd
theorem Tells.item {e e' : Expr} {p : Pos} {l : Addr} {vs : List Value} {k : Nat} {u : Tok} {v : Value} (x : Tells prog w A s env h e (.ref l)) (y : Tells prog w A s env h e' (.int (k : Int) u)) (hl : h.IsList l vs.toArray) (hx : vs[k]? = some v) (hsz : vs.length ≤ 1000)
    (hs : subscripted e' false (.ref l) (.int (k : Int) u) = operate [.ref l, .int (k : Int) u] (getItem (.ref l) (.int (k : Int) u)) := by rfl) : Tells prog w A s env h (.Subscript e e' p) v :=
  fun t Q E q => Subscript_ (x t _ E (y t _ E (do_item hl hx (by omega) q hs)))
theorem t_i {i : Nat} {u : Tok} {p : Pos} (LE : LawE env L) (c : h.IsCell (L + 1) (some (.int (i : Int) u))) : Tells prog w A s env h (.Name (Str.ofString "i") p) (.int (i : Int) u) := Tells.cell LE LE.ci c LE.ki
theorem t_j {i : Nat} {u : Tok} {p : Pos} (LE : LawE env L) (n : h.Ns L m) (c : m (Str.ofString "j") = some (.int (i : Int) u)) : Tells prog w A s env h (.Name (Str.ofString "j") p) (.int (i : Int) u) := Tells.local LE n c LE.kj
theorem t_turned {e : Expr} {p p' : Pos} {i : Nat} {u : Tok} (LE : LawE env L) (P : DatPlain D L) (X : LS D L h m) (y : Tells prog w A s env h e (.int (i : Int) u)) (hi : i < D.k)
    (hs : ∀ l, subscripted e false (.ref l) (.int (i : Int) u) = operate [.ref l, .int (i : Int) u] (getItem (.ref l) (.int (i : Int) u)) := by intro _; rfl) : Tells prog w A s env h (.Subscript (.Name (Str.ofString "turned") p) e p') (D.g i) :=
  Tells.item (Tells.cell LE LE.ct X.ct LE.kt) y X.dat.turned.isList (range_at hi) (by have := P.few; simp; omega) (hs _)
theorem t_once {e : Expr} {p p' : Pos} {i : Nat} {u : Tok} (LE : LawE env L) (P : DatPlain D L) (X : LS D L h m) (y : Tells prog w A s env h e (.int (i : Int) u)) (hi : i < D.k)
    (hs : ∀ l, subscripted e false (.ref l) (.int (i : Int) u) = operate [.ref l, .int (i : Int) u] (getItem (.ref l) (.int (i : Int) u)) := by intro _; rfl) : Tells prog w A s env h (.Subscript (.Name (Str.ofString "once") p) e p') (.ref (D.o i)) :=
  Tells.item (Tells.cell LE LE.co X.co LE.ko) y X.dat.once.isList (range_at hi) (by have := P.few; simp; omega) (hs _)
theorem t_rows {e : Expr} {p p' : Pos} {i : Nat} {u : Tok} (LE : LawE env L) (P : DatPlain D L) (X : LS D L h m) (y : Tells prog w A s env h e (.int (i : Int) u)) (hi : i < D.k)
    (hs : ∀ l, subscripted e false (.ref l) (.int (i : Int) u) = operate [.ref l, .int (i : Int) u] (getItem (.ref l) (.int (i : Int) u)) := by intro _; rfl) : Tells prog w A s env h (.Subscript (.Name (Str.ofString "rows") p) e p') (D.f i) :=
  Tells.item (Tells.local LE X.ns X.mv.rows LE.krows) y X.dat.rows.isList (range_at hi) (by have := P.few; simp; omega) (hs _)
theorem t_least {e : Expr} {p p' : Pos} {i : Nat} {u : Tok} (LE : LawE env L) (P : DatPlain D L) (X : LS D L h m) (y : Tells prog w A s env h e (.int (i : Int) u)) (hi : i < D.k)
    (hs : ∀ l, subscripted e false (.ref l) (.int (i : Int) u) = operate [.ref l, .int (i : Int) u] (getItem (.ref l) (.int (i : Int) u)) := by intro _; rfl) : Tells prog w A s env h (.Subscript (.Name (Str.ofString "least") p) e p') ((best d0 (D.ps i)).1) :=
  Tells.item (Tells.local LE X.ns X.mv.least LE.kleast) y X.dat.least.isList (range_at hi) (by have := P.few; simp; omega) (hs _)
theorem t_size {e : Expr} {p p' : Pos} {i : Nat} {u : Tok} (LE : LawE env L) (P : DatPlain D L) (X : LS D L h m) (y : Tells prog w A s env h e (.int (i : Int) u)) (hi : i < D.k)
    (hs : ∀ l, subscripted e false (.ref l) (.int (i : Int) u) = operate [.ref l, .int (i : Int) u] (getItem (.ref l) (.int (i : Int) u)) := by intro _; rfl) : Tells prog w A s env h (.Subscript (.Name (Str.ofString "size") p) e p') (.int (sz (D.N i) : Int) (D.u i)) :=
  Tells.item (Tells.local LE X.ns X.mv.size LE.ksize) y X.dat.size.isList (range_at hi) (by have := P.few; simp; omega) (hs _)
end
end Mine
end
section
open PySem PySem.W PyProof.Rows PySem.SeqAt
set_option maxRecDepth 100000
set_option maxHeartbeats 4000000
namespace Mine
def forBody : Stmt → List Stmt
  | .For _ _ b _ _ => b
  | _ => []
/-- the outer loop's statement i -/
def lo (i : Nat) : Stmt := (forBody (lst 9)).getD i (.Pass default)
/-- the inner loop's statement i -/
def li (i : Nat) : Stmt := (forBody (lo 4)).getD i (.Pass default)
section
variable {prog : Program} {w : World} {A : Around} {E : Value → Shared → Prop} {R : Result → Shared → Prop} {s : Shared} {h : Heap} {t : Nat} {env : Env} {L : Addr} {m : Str → Option Value} {D : Dat}
theorem ev_len {e : Expr} {p pos : Pos} {l : Addr} {vs : List Value} {Q : Value → Shared → Prop} (LE : LawE env L) (G : Gnd h) (T : Tells prog w A s env h e (.ref l)) (hl : h.IsList l vs.toArray) (hsz : vs.length ≤ 1000) (q : ∀ u tk, Q (.int (vs.length : Int) u) (st s h tk))
    (h1 : eval (.Call (.Name (Str.ofString "len") p) [e] [] pos) env = (do callWith pos (← eval (.Name (Str.ofString "len") p) env) [] (backTo pos (starEach [e] env)) (backToKw pos (keywordEach [] env))) := by rfl)
    (he : starEach [e] env = (false, eval e env) :: starEach [] env := by rfl) :
    wpAny (model prog w) A (eval (.Call (.Name (Str.ofString "len") p) [e] [] pos) env) Q E (st s h t) :=
  ev_bi1 G boot_len (T _ _ _ (do_len hl (by omega) q)) (by simp [bNames]) LE.glob LE.bi LE.fn LE.glen (by decide) h1 he
theorem ev_lenRow {e : Expr} {p pos : Pos} {v : Value} {ns : List Int} {Q : Value → Shared → Prop} (LE : LawE env L) (G : Gnd h) (T : Tells prog w A s env h e v) (hr : RowAt h v ns) (hsz : ns.length ≤ 1000) (q : ∀ u tk, Q (.int (ns.length : Int) u) (st s h tk))
    (h1 : eval (.Call (.Name (Str.ofString "len") p) [e] [] pos) env = (do callWith pos (← eval (.Name (Str.ofString "len") p) env) [] (backTo pos (starEach [e] env)) (backToKw pos (keywordEach [] env))) := by rfl)
    (he : starEach [e] env = (false, eval e env) :: starEach [] env := by rfl) :
    wpAny (model prog w) A (eval (.Call (.Name (Str.ofString "len") p) [e] [] pos) env) Q E (st s h t) :=
  ev_bi1 G boot_len (T _ _ _ (row_len hr hsz q)) (by simp [bNames]) LE.glob LE.bi LE.fn LE.glen (by decide) h1 he
theorem row_ref {h : Heap} {v : Value} {ns : List Int} (r : RowAt h v ns) : ∃ a, v = .ref a := let ⟨a, _, e, _⟩ := r; ⟨a, e⟩
/-- the turnings of row i, and the first of each -/
theorem LS.tn {i : Nat} (P : DatPlain D L) (X : LS D L h m) (hi : i < D.k) : ∃ b, D.g i = .ref b ∧ h.PlainList b ((D.ps i).map (·.1)).toArray ∧ (∀ p ∈ D.ps i, RowAt h p.1 p.2) ∧ (D.ps i).length = (D.N i).length ∧ (D.ps i).length ≤ 4 ∧ (D.ps i).map (·.2) = rots (D.N i) ∧ D.N i ∈ allRows ∧ D.ps i ≠ [] := by
  obtain ⟨b, e, l, r⟩ := (X.dat.tn i hi).list
  have hl := ps_len (P.ps i hi)
  have h4 := rows_len _ (P.row i hi)
  refine ⟨b, e, l, r, hl, by omega, P.ps i hi, P.row i hi, fun z => ?_⟩
  rw [z] at hl
  exact h4.1 (List.length_eq_zero_iff.mp hl.symm)
end
end Mine
end
section
open PySem PySem.W PyProof.Rows PySem.SeqAt
set_option maxRecDepth 100000
set_option maxHeartbeats 4000000
namespace Mine
section
variable {prog : Program} {w : World} {A : Around} {E : Value → Shared → Prop} {R : Result → Shared → Prop} {s : Shared} {h : Heap} {t : Nat} {L : Addr} {m : Str → Option Value} {D : Dat}
theorem st1 {doc pm cd : Value} {i : Nat} {u : Tok} {Q : Flow → Shared → Prop} (hA : AOk 8 A) (P : DatPlain D L) (X : LS D L h m) (c : h.IsCell (L + 1) (some (.int (i : Int) u))) (hi : i < D.k)
    (q : ∀ h' t', Kp h h' → Q .next (st s h' t')) : wpAny (model prog w) A (exec (lo 0) (lawEnv doc pm cd L)) Q E (st s h t) := by
  have LE : LawE (lawEnv doc pm cd L) L := lawE
  obtain ⟨b, hg, lb, rb, hlen, h4, hps, hN, hne⟩ := X.tn P hi
  obtain ⟨hs1, hs2, hs3⟩ := rows_size _ hN
  have hl4 := (rows_len _ hN).2
  have honce := ps_once hN hps
  have hdl : ((dd (D.ps i)).map (·.1)).length = sz (D.N i) := by rw [List.length_map, honce, List.length_take]; omega
  refine wpAny_If (isTrue_or (wpAny_isTrue_Compare1 (ev_len LE X.G (l := b) (vs := (D.ps i).map (·.1)) (hg ▸ t_turned LE P X (t_i LE c) hi) lb.isList (by simp; omega) fun u₁ t₁ => ?_)))
  refine ev_lenRow LE X.G (t_rows LE P X (t_i LE c) hi) (X.dat.row i hi) (by omega) fun u₂ t₂ => PyProof.Rows.ne_int (s := st s h t₂) (wpAny_truthy_bool ?_)
  rw [show (((((D.ps i).map (·.1)).length : Nat) : Int) != ((D.N i).length : Int)) = false by rw [List.length_map, hlen]; simp]
  refine isTrue_or (wpAny_isTrue_Compare1 (ev_len (s := s) (h := h) LE X.G (l := D.o i) (vs := (dd (D.ps i)).map (·.1)) (t_once LE P X (t_i LE c) hi) (X.dat.on i hi).isList (by omega) fun u₃ t₃ => ?_))
  refine (t_size LE P X (t_i LE c) hi) _ _ _ (PyProof.Rows.ne_int (s := st s h t₃) (wpAny_truthy_bool ?_))
  rw [show (((((dd (D.ps i)).map (·.1)).length : Nat) : Int) != (sz (D.N i) : Int)) = false by rw [hdl]; simp]
  refine isTrue_or (wpAny_isTrue_Compare1 ?_)
  refine ev_comp' (s := s) (h := h) (cl := [(Str.ofString "turned", L + 2), (Str.ofString "once", L + 3), (Str.ofString "i", L + 1)]) (by rfl) ?_
  refine ev_type1 (s := s) (h := h) X.G boot_range ((t_size LE P X (t_i LE c) hi) _ _ _ ?_) (by simp [bNames]) LE.glob LE.bi LE.fn LE.grange
  refine do_range1 (s := s) (h := h) fun r h₁ t₅ ta tb tc k₁ hr Rg => ?_
  refine it_range Rg (by omega) (by omega) (by omega) fun J h₂ k₂ hJ i₂ => ?_
  have en : ((sz (D.N i) : Int)).toNat = sz (D.N i) := by omega
  rw [Int.sub_zero, en] at i₂
  have k02 := k₁.trans k₂
  refine ⟨J, [J], sz (D.N i), fun _ => false, fun _ _ _ _ => True, h₂, _, rfl, rfl, Src.range hA.hh i₂ (by omega) (fun _ _ _ _ _ _ _ => trivial) (fun _ _ _ _ _ _ _ => trivial) (Turn.local ?_), ?_⟩
  · rintro good C k v h₃ t₆ E' m' g1 g2 hC hk ⟨tv, rfl⟩ kb n₃ hm'
    have hp : (0 : Int) + (k : Int) * 1 = (k : Int) := by omega
    rw [hp] at hm'
    have k03 : Kp h h₃ := KpB.kp k02 kb (by simpa using none_of_kp k₁ hJ)
    have X₃ := X.mono P k03
    have c₃ := c.keeps k03
    have hkl : k < (D.ps i).length := by omega
    obtain ⟨a, ha⟩ := row_ref (rb _ (List.getElem_mem hkl))
    have e1 : ((dd (D.ps i)).map (·.1))[k]? = some (.ref a) := by
      rw [honce]
      simp [hkl, hk, ha]
    have e2 : ((D.ps i).map (·.1))[k]? = some (.ref a) := by simp [hkl, ha]
    have few := P.few
    refine if_one (wpAny_isTrue_Compare1 (Subscript_ (Subscript_ (ev_cell (s := s) (h := h₃) (c := L + 3) (by rfl) X₃.co (ev_cell (c := L + 1) (by rfl) c₃ (do_item X₃.dat.once.isList (range_at hi) (by simp; omega) ?_))))))
    refine ev_local n₃ hm' (do_item (X₃.dat.on i hi).isList e1 (by omega) ?_)
    refine Subscript_ (Subscript_ (ev_cell (s := s) (h := h₃) (c := L + 2) (by rfl) X₃.ct (ev_cell (c := L + 1) (by rfl) c₃ (do_item X₃.dat.turned.isList (range_at hi) (by simp; omega) ?_))))
    rw [hg]
    refine ev_local n₃ hm' (do_item (plain_kp k03 lb).isList e2 (by simp; omega) ?_)
    refine wpAny_isNot_ref_self (wpAny_truthy_bool ⟨rfl, h₃, _, rfl, Kp.refl _, fun z => nomatch z⟩)
  · intro Dl h₃ t₆ hD M kb
    obtain ⟨ys, l, Pd⟩ := M
    have k03 : Kp h h₃ := KpB.kp k02 kb (by simpa using none_of_kp k₁ hJ)
    have hys : ys = [] := by
      have := Pd.length
      rw [show (List.range (sz (D.N i))).filter (fun _ => false) = [] from List.filter_eq_nil_iff.mpr fun _ _ z => absurd z (by decide)] at this
      exact List.length_eq_zero_iff.mp this.symm
    subst hys
    refine List_ (args_nil (ev_newList (vs := []) fun r₂ h₄ k₄ hr₂ l₄ => ?_))
    refine do_ne (s := s) (h := h₄) (reads_plain (vs := []) (plain_kp k₄ l) .nil) (reads_plain (vs := []) l₄ .nil) (by decide) (by decide) (by decide) (by have := hA.hu; omega) (wpAny_truthy_bool ?_)
    exact isTrue_or_nil (wpAny_execs_nil (q h₄ _ (k03.trans k₄)))
end
end Mine
end
section
open PySem PySem.W PyProof.Rows PySem.SeqAt
set_option maxRecDepth 100000
set_option maxHeartbeats 4000000
namespace Mine
section
variable {prog : Program} {w : World} {A : Around} {E : Value → Shared → Prop} {R : Result → Shared → Prop} {s : Shared} {h : Heap} {t : Nat} {L : Addr} {m : Str → Option Value} {D : Dat}
theorem st2 {doc pm cd : Value} {i : Nat} {u : Tok} {Q : Flow → Shared → Prop} (hA : AOk 8 A) (P : DatPlain D L) (X : LS D L h m) (c : h.IsCell (L + 1) (some (.int (i : Int) u))) (hi : i < D.k)
    (q : ∀ h' t', Kp h h' → Q .next (st s h' t')) : wpAny (model prog w) A (exec (lo 1) (lawEnv doc pm cd L)) Q E (st s h t) := by
  have LE : LawE (lawEnv doc pm cd L) L := lawE
  obtain ⟨b, hg, lb, rb, hlen, h4, hps, hN, hne⟩ := X.tn P hi
  obtain ⟨hb1, hb2, hb3⟩ := ps_best hN hps
  have hbm := mem_best d0 _ hne
  obtain ⟨a, ha⟩ := row_ref (rb _ hbm)
  have hbl : bI (D.N i) < (D.ps i).length := (List.getElem?_eq_some_iff.mp hb1).1
  have hu := hA.hu
  refine wpAny_If (wpAny_isTrue_Compare1 ((t_least LE P X (t_i LE c) hi) _ _ _ ?_))
  refine Subscript_ ((t_turned LE P X (t_i LE c) hi) _ _ _ ?_)
  rw [hg]
  refine ev_meth1 (l := b) (items := ((D.ps i).map (fun p : Value × List Int => p.1)).toArray) PySem.F.slot_list_index PySem.F.type_list_index ((t_turned LE P X (t_i LE c) hi) _ _ _ ⟨hg, lb, ?_⟩)
  refine ev_bi1 (s := s) (h := h) X.G boot_min ((t_turned LE P X (t_i LE c) hi) _ _ _ ?_) (by simp [bNames]) LE.glob LE.bi LE.fn LE.gmin
  rw [hg]
  refine do_min d0 hA.hh (by omega) lb.isList rb hne fun h₁ t₁ k₁ => ?_
  refine do_index kRow (qs := D.ps i) (d := bC (D.N i)) (j := bI (D.N i)) (by omega) (plain_kp k₁ lb).isList (fun p hp => (rb p hp).mono k₁) ?_ hbl ?_ hb3 (by omega) fun u₂ t₂ => ?_
  · have := (rb _ hbm).mono k₁
    rw [hb2] at this
    exact this
  · have := (List.getElem?_eq_some_iff.mp hb1).2
    rw [this, hb2]
  refine do_item (s := s) (h := h₁) (k := bI (D.N i)) (plain_kp k₁ lb).isList (v := .ref a) (by rw [List.getElem?_map, hb1, Option.map_some, ha]) (by simp; omega) ?_
  rw [ha]
  exact wpAny_isNot_ref_self (wpAny_truthy_bool (wpAny_execs_nil (q h₁ _ k₁)))
theorem st3 {doc pm cd : Value} {i : Nat} {u : Tok} {Q : Flow → Shared → Prop} (P : DatPlain D L) (X : LS D L h m) (c : h.IsCell (L + 1) (some (.int (i : Int) u))) (hi : i < D.k)
    (q : ∀ h' t', Heap.SameBut L h h' → h'.Ns L (fun y => if y = Str.ofString "repeated" then some (.bool (decide (sz (D.N i) < (D.N i).length))) else m y) → Q .next (st s h' t')) : wpAny (model prog w) A (exec (lo 2) (lawEnv doc pm cd L)) Q E (st s h t) := by
  have LE : LawE (lawEnv doc pm cd L) L := lawE
  have hl4 := (rows_len _ (P.row i hi)).2
  refine wpAny_Assign_Name (wpAny_Compare1 ((t_size LE P X (t_i LE c) hi) _ _ _ ?_))
  refine ev_lenRow (s := s) (h := h) LE X.G (t_rows LE P X (t_i LE c) hi) (X.dat.row i hi) (by omega) fun u₂ t₂ => PyProof.Rows.lt_int (s := st s h t₂) ?_
  have e : decide (((sz (D.N i) : Nat) : Int) < ((D.N i).length : Int)) = decide (sz (D.N i) < (D.N i).length) := decide_eq_decide.mpr (by omega)
  rw [e]
  exact st_local X.ns (fun h' n' b' => q h' _ b' n') LE.loc LE.krep LE.cls
theorem st4 {doc pm cd : Value} {i : Nat} {u : Tok} {Q : Flow → Shared → Prop} (hA : AOk 8 A) (hfr : A.frames = some [lawEnv doc pm cd L]) (P : DatPlain D L) (X : LS D L h m) (c : h.IsCell (L + 1) (some (.int (i : Int) u))) (hi : i < D.k) (hrep : m (Str.ofString "repeated") = some (.bool (decide (sz (D.N i) < (D.N i).length))))
    (q : ∀ h' t', KpF [L] h h' → Q .next (st s h' t')) : wpAny (model prog w) A (exec (lo 3) (lawEnv doc pm cd L)) Q E (st s h t) := by
  have LE : LawE (lawEnv doc pm cd L) L := lawE
  obtain ⟨b, hg, lb, rb, hlen, h4, hps, hN, hne⟩ := X.tn P hi
  obtain ⟨c1, c2⟩ := ps_cmp1 hN hps
  refine wpAny_If (isTrue_or (wpAny_isTrue_Compare1 (ev_call2 X.G X.G.f28 (ev_from ((t_turned LE P X (t_i LE c) hi) _ _ _ (ev_int fun u₁ t₁ => ⟨b, _, 1, u₁, h, t₁, hg, rfl, rfl, lb.isList, by simp; omega, fun r h₁ k₁ hr l₁ => ?_⟩))) (by simp [gNames]) LE.glob LE.fn LE.gcmp)))
  have X₁ := X.mono P k₁
  have c₁ := c.keeps k₁
  refine (t_turned LE P X₁ (t_i LE c₁) hi) _ _ _ ⟨k₁, ?_⟩
  rw [hg]
  rw [← List.map_drop] at l₁
  refine compare_spec kRow (hA.less (by omega)) hfr (lawFrames X₁.ns) X₁.G l₁.isList (fun p hp => (rb p (List.mem_of_mem_drop hp)).mono k₁) (plain_kp k₁ lb).isList (fun p hp => (rb p hp).mono k₁) (by simp; omega) (by omega) fun h₂ t₂ kF => ?_
  rw [lawFrs] at kF
  rw [c1]
  have X₂ := X₁.frame P kF
  have c₂ : h₂.IsCell (L + 1) (some (.int (i : Int) u)) := by
    obtain ⟨o, e, d⟩ := c₁
    exact ⟨o, kF.but _ _ (by simp) e, d⟩
  refine (Tells.local LE X₂.ns hrep LE.krep) _ _ _ (wpAny_isNot_self rfl (wpAny_truthy_bool ?_))
  refine isTrue_or (wpAny_isTrue_Compare1 (ev_call2 X₂.G X₂.G.f28 ((t_turned LE P X₂ (t_i LE c₂) hi) _ _ _ ?_) (by simp [gNames]) LE.glob LE.fn LE.gcmp))
  have lb₂ : h₂.PlainList b ((D.ps i).map (·.1)).toArray := by
    obtain ⟨b', hg', l', _⟩ := (X₂.dat.tn i hi).list
    rw [hg] at hg'; cases hg'; exact l'
  refine ev_from ((t_turned LE P X₂ (t_i LE c₂) hi) _ _ _ (ev_int (s := s) (h := h₂) fun u₃ t₃ => ⟨b, _, 1, u₃, h₂, t₃, hg, rfl, rfl, lb₂.isList, by simp; omega, fun r₃ h₃ k₃ hr₃ l₃ => ⟨k₃, ?_⟩⟩))
  have X₃ := X₂.mono P k₃
  rw [← List.map_drop] at l₃
  obtain ⟨b', hg', lb₃, rb₃⟩ := (X₃.dat.tn i hi).list
  rw [hg] at hg' ⊢
  cases hg'
  refine compare_spec kRow (hA.less (by omega)) hfr (lawFrames X₃.ns) X₃.G lb₃.isList rb₃ l₃.isList (fun p hp => rb₃ p (List.mem_of_mem_drop hp)) (by omega) (by simp; omega) fun h₄ t₄ kF' => ?_
  rw [lawFrs] at kF'
  rw [c2]
  have X₄ := X₃.frame P kF'
  refine (Tells.local LE X₄.ns hrep LE.krep) _ _ _ (wpAny_isNot_self rfl (wpAny_truthy_bool ?_))
  refine isTrue_or_nil (wpAny_execs_nil (q h₄ _ ?_))
  exact (((KpF.of k₁).trans kF).trans (KpF.of k₃)).trans kF'
end
end Mine
end
section
open PySem PySem.W PyProof.Rows PySem.SeqAt
set_option maxRecDepth 100000
set_option maxHeartbeats 4000000
namespace Mine
/-- rows as data -/
def rd (l : List (List Int)) : PyData := .list (l.map fun c => PyData.list (c.map PyData.int))
theorem rd_layAll : ∀ l : List (List Int), PyData.canLayAll0 (l.map fun c => PyData.list (c.map PyData.int)) = true
  | [] => rfl
  | c :: r => by
    show (PyData.canLayAll0 (c.map PyData.int) && PyData.canLayAll0 (r.map fun c => PyData.list (c.map PyData.int))) = true
    rw [canLayAll0_ints, rd_layAll r]; rfl
theorem rd_lay (l : List (List Int)) : (rd l).canLay0 = true := rd_layAll l
theorem rd_deepAll : ∀ l : List (List Int), PyData.depthAll (l.map fun c => PyData.list (c.map PyData.int)) ≤ 3
  | [] => Nat.zero_le _
  | c :: r => by
    show max (PyData.depthAll (c.map PyData.int) + 1) (PyData.depthAll (r.map fun c => PyData.list (c.map PyData.int))) ≤ 3
    have h1 := PySem.W.depthAll_ints c
    have h2 := rd_deepAll r
    exact Nat.max_le.mpr ⟨by omega, h2⟩
theorem rd_deep (l : List (List Int)) : (rd l).depth ≤ 20 := by
  show PyData.depthAll _ + 1 ≤ 20
  have := rd_deepAll l
  omega
theorem readsRows {h : Heap} : ∀ {ps : List (Value × List Int)}, (∀ p ∈ ps, RowAt h p.1 p.2) → ∃ as, ReadsAll h (ps.map (·.1)) (ps.map fun p => PyData.list (p.2.map PyData.int)) as
  | [], _ => ⟨[], .nil⟩
  | p :: r, hp => by
    obtain ⟨as, ih⟩ := readsRows (ps := r) fun x hx => hp x (.tail _ hx)
    obtain ⟨a, vs, e, l, i⟩ := hp p (.head _)
    refine ⟨_, .cons (as := a :: []) ?_ ih⟩
    show Reads h p.1 _ _
    rw [e]
    exact reads_plain l (readsAll_of_ints i)
theorem readsList {h : Heap} {a : Addr} {ps : List (Value × List Int)} (l : h.PlainList a (ps.map (·.1)).toArray) (hp : ∀ p ∈ ps, RowAt h p.1 p.2) : ∃ as, Reads h (.ref a) (rd (ps.map (·.2))) as := by
  obtain ⟨as, r⟩ := readsRows hp
  refine ⟨_, reads_plain l (as := as) ?_⟩
  rw [List.map_map]
  exact r
section
variable {prog : Program} {w : World} {A : Around} {E : Value → Shared → Prop} {R : Result → Shared → Prop} {s : Shared} {h : Heap} {t : Nat} {L : Addr} {m : Str → Option Value} {D : Dat}
theorem tt1 {doc pm cd : Value} {i j : Nat} {u uj : Tok} {Q : Flow → Shared → Prop} (hA : AOk 8 A) (P : DatPlain D L) (X : LS D L h m) (c : h.IsCell (L + 1) (some (.int (i : Int) u))) (hi : i < D.k) (hmj : m (Str.ofString "j") = some (.int (j : Int) uj)) (hj : j < D.k)
    (q : ∀ h' t', Heap.SameBut L h h' → h'.Ns L (fun y => if y = Str.ofString "alike" then some (.bool (decide (bC (D.N i) = bC (D.N j)))) else m y) → Q .next (st s h' t')) : wpAny (model prog w) A (exec (li 0) (lawEnv doc pm cd L)) Q E (st s h t) := by
  have LE : LawE (lawEnv doc pm cd L) L := lawE
  obtain ⟨b, hg, lb, rb, hlen, h4, hps, hN, hne⟩ := X.tn P hi
  obtain ⟨b', hg', lb', rb', hlen', h4', hps', hN', hne'⟩ := X.tn P hj
  have r1 := rb _ (mem_best d0 _ hne)
  have r2 := rb' _ (mem_best d0 _ hne')
  rw [(ps_best hN hps).2.1] at r1
  rw [(ps_best hN' hps').2.1] at r2
  refine wpAny_Assign_Name (wpAny_Compare1 ((t_least LE P X (t_i LE c) hi) _ _ _ ((t_least LE P X (t_j LE X.ns hmj) hj) _ _ _ (do_eqRow (s := st s h t) (by have := hA.hu; omega) r1 r2 ?_))))
  exact st_local X.ns (fun h' n' b' => q h' _ b' n') LE.loc LE.kalike LE.cls
theorem tt2 {doc pm cd : Value} {i j : Nat} {u uj : Tok} {Q : Flow → Shared → Prop} (hA : AOk 8 A) (hfr : A.frames = some [lawEnv doc pm cd L]) (P : DatPlain D L) (X : LS D L h m) (c : h.IsCell (L + 1) (some (.int (i : Int) u))) (hi : i < D.k) (hmj : m (Str.ofString "j") = some (.int (j : Int) uj)) (hj : j < D.k)
    (hal : m (Str.ofString "alike") = some (.bool (decide (bC (D.N i) = bC (D.N j))))) (q : ∀ h' t', KpF [L] h h' → Q .next (st s h' t')) : wpAny (model prog w) A (exec (li 1) (lawEnv doc pm cd L)) Q E (st s h t) := by
  have LE : LawE (lawEnv doc pm cd L) L := lawE
  obtain ⟨b, hg, lb, rb, hlen, h4, hps, hN, hne⟩ := X.tn P hi
  obtain ⟨b', hg', lb', rb', hlen', h4', hps', hN', hne'⟩ := X.tn P hj
  refine wpAny_If (wpAny_isTrue_Compare1 (ev_call2 X.G X.G.f28 ((t_turned LE P X (t_i LE c) hi) _ _ _ ((t_turned LE P X (t_j LE X.ns hmj) hj) _ _ _ ⟨Kp.refl _, ?_⟩)) (by simp [gNames]) LE.glob LE.fn LE.gcmp))
  rw [hg, hg']
  refine compare_spec kRow (hA.less (by omega)) hfr (lawFrames X.ns) X.G lb.isList rb lb'.isList rb' (by omega) (by omega) fun h₁ t₁ kF => ?_
  rw [lawFrs] at kF
  rw [ps_cmp2 hN hN' hps hps']
  have X₁ := X.frame P kF
  exact (Tells.local LE X₁.ns hal LE.kalike) _ _ _ (wpAny_isNot_self rfl (wpAny_truthy_bool (wpAny_execs_nil (q h₁ _ kF))))
theorem tt3 {doc pm cd : Value} {i j : Nat} {u uj : Tok} {Q : Flow → Shared → Prop} (hA : AOk 8 A) (P : DatPlain D L) (X : LS D L h m) (c : h.IsCell (L + 1) (some (.int (i : Int) u))) (hi : i < D.k) (hmj : m (Str.ofString "j") = some (.int (j : Int) uj)) (hj : j < D.k)
    (hal : m (Str.ofString "alike") = some (.bool (decide (bC (D.N i) = bC (D.N j))))) (q : ∀ h' t', Kp h h' → Q .next (st s h' t')) : wpAny (model prog w) A (exec (li 2) (lawEnv doc pm cd L)) Q E (st s h t) := by
  have LE : LawE (lawEnv doc pm cd L) L := lawE
  obtain ⟨b, hg, lb, rb, hlen, h4, hps, hN, hne⟩ := X.tn P hi
  obtain ⟨b', hg', lb', rb', hlen', h4', hps', hN', hne'⟩ := X.tn P hj
  refine wpAny_If (wpAny_isTrue_Compare1 (ev_call1 X.G X.G.f21 (wpAny_BinOp ((t_turned LE P X (t_j LE X.ns hmj) hj) _ _ _ ((t_turned LE P X (t_i LE c) hi) _ _ _ ?_))) (by simp [gNames]) LE.glob LE.fn LE.gdd))
  rw [hg, hg']
  refine do_add lb' lb (by simp; omega) fun r h₁ k₁ hr l₁ => ⟨k₁, ?_⟩
  rw [← List.map_append] at l₁
  have X₁ := X.mono P k₁
  have rboth : ∀ p ∈ D.ps j ++ D.ps i, RowAt h p.1 p.2 := fun p hp => (List.mem_append.mp hp).elim (rb' p) (rb p)
  refine dedup_spec kRow (hA.less (by omega)) X₁.G.lim X₁.G.f21 l₁.isList (fun p hp => (rboth p hp).mono k₁) (by simp; omega) fun r₂ h₂ t₂ k₂ hr₂ l₂ => ?_
  have k02 := k₁.trans k₂
  have X₂ := X.mono P k02
  have c₂ := c.keeps k02
  have hdj := dd_length (D.ps j)
  have hdi := dd_length (D.ps i)
  refine wpAny_BinOp ((t_once LE P X₂ (t_j LE X₂.ns hmj) hj) _ _ _ (wpAny_IfExp (isTrue_plain ((Tells.local LE X₂.ns hal LE.kalike) _ _ _ (wpAny_truthy_bool ?_)))))
  -- the end, once the right side is made
  have fin : ∀ (a : Addr) (h₃ : Heap) (t₃ : Nat) (pr : List (Value × List Int)) (Q2 : Value → Shared → Prop), Kp h₂ h₃ → h₃.PlainList a ((dd (D.ps j) ++ pr).map (·.1)).toArray → (∀ p ∈ pr, p ∈ D.ps i) → pr.map (·.2) = (if bC (D.N i) = bC (D.N j) then [] else (dd (D.ps i)).map (·.2)) →
      Q2 (.bool false) (st s h₃ t₃) → wpAny (model prog w) A (compareOp .NotEq (.ref r₂) (.ref a)) Q2 E (st s h₃ t₃) := by
    intro a h₃ t₃ pr Q2 k₃ l₃ hpr hc q2
    have k03 := k02.trans k₃
    obtain ⟨as, R1⟩ := readsList (plain_kp k₃ l₂) (fun p hp => ((rboth p (mem_dd _ _ hp)).mono k03))
    obtain ⟨bs, R2⟩ := readsList l₃ (fun p hp => (List.mem_append.mp hp).elim (fun hp => (rb' p (mem_dd _ _ hp)).mono k03) (fun hp => (rb p (hpr p hp)).mono k03))
    have e : (dd (D.ps j) ++ pr).map (·.2) = (dd (D.ps j ++ D.ps i)).map (·.2) := by
      rw [List.map_append, hc, ps_dd2 hN hN' hps hps']
    rw [e] at R2
    refine do_ne R1 R2 (rd_lay _) (rd_lay _) (rd_deep _) (by have := hA.hu; omega) ?_
    rw [eqv_refl _ (rd_lay _)]
    exact q2
  by_cases ha : bC (D.N i) = bC (D.N j)
  · rw [decide_eq_true ha]
    refine List_ (args_nil (ev_newList (vs := []) (s := s) (h := h₂) fun r₃ h₃ k₃ hr₃ l₃ => ?_))
    refine do_add (plain_kp k₃ (X₂.dat.on j hj)) l₃ (by simp; omega) fun r₄ h₄ k₄ hr₄ l₄ => ?_
    refine fin r₄ h₄ _ [] _ (k₃.trans k₄) (by simpa using l₄) (fun _ h => nomatch h) (by rw [if_pos ha]; rfl) ?_
    exact wpAny_truthy_bool (wpAny_execs_nil (q h₄ _ (k02.trans (k₃.trans k₄))))
  · rw [decide_eq_false ha]
    refine (t_once LE P X₂ (t_i LE c₂) hi) _ _ _ ?_
    refine do_add (X₂.dat.on j hj) (X₂.dat.on i hi) (by simp; omega) fun r₄ h₄ k₄ hr₄ l₄ => ?_
    refine fin r₄ h₄ _ (dd (D.ps i)) _ k₄ (by rw [List.map_append]; exact l₄) (fun p hp => mem_dd _ _ hp) (by rw [if_neg ha]) ?_
    exact wpAny_truthy_bool (wpAny_execs_nil (q h₄ _ (k02.trans k₄)))
theorem tt4 {doc pm cd : Value} {i j : Nat} {u uj : Tok} {Q : Flow → Shared → Prop} (hA : AOk 8 A) (P : DatPlain D L) (X : LS D L h m) (c : h.IsCell (L + 1) (some (.int (i : Int) u))) (hi : i < D.k) (hmj : m (Str.ofString "j") = some (.int (j : Int) uj)) (hj : j < D.k)
    (q : ∀ h' t', Kp h h' → Q .next (st s h' t')) : wpAny (model prog w) A (exec (li 3) (lawEnv doc pm cd L)) Q E (st s h t) := by
  have LE : LawE (lawEnv doc pm cd L) L := lawE
  have hN := P.row i hi
  have hN' := P.row j hj
  have l1 := (rows_len _ hN).2
  have l2 := (rows_len _ hN').2
  refine wpAny_If (wpAny_isTrue_Compare1 (wpAny_Compare1 (ev_key X.ns X.mv.key X.KO ((t_rows LE P X (t_i LE c) hi) _ _ _ ⟨Kp.refl _, make_spec (hA.less (by omega)) X.G.lim X.KO.cls fun x h₁ t₁ k₁ hx Kx => ?_⟩) LE.loc LE.fn LE.kkey)))
  have X₁ := X.mono P k₁
  have c₁ := c.keeps k₁
  refine ev_key X₁.ns X₁.mv.key X₁.KO ((t_rows LE P X₁ (t_j LE X₁.ns hmj) hj) _ _ _ ⟨Kp.refl _, make_spec (hA.less (by omega)) X₁.G.lim X₁.KO.cls fun y h₂ t₂ k₂ hy Ky => ?_⟩) LE.loc LE.fn LE.kkey
  have X₂ := X₁.mono P k₂
  refine key_eq (hA.less (by omega)) X₂.G (Kx.mono k₂) Ky (X₂.dat.row i hi) (X₂.dat.row j hj) X₂.KO.cell (by omega) fun h₃ t₃ k₃ => ?_
  rw [rows_key _ hN _ hN']
  have X₃ := X₂.mono P k₃
  have c₃ := c₁.keeps (k₂.trans k₃)
  obtain ⟨a, vs, ea, la, ia⟩ := X₃.dat.row i hi
  have lva := ia.length
  refine wpAny_Compare1 (ev_upto ((t_rows LE P X₃ (t_i LE c₃) hi) _ _ _ ((t_size LE P X₃ (t_i LE c₃) hi) _ _ _ ⟨a, vs, sz (D.N i), _, h₃, _, ea, rfl, rfl, la.isList, by omega, fun r₄ h₄ k₄ hr₄ l₄ => ?_⟩)))
  have X₄ := X₃.mono P k₄
  have c₄ := c₃.keeps k₄
  obtain ⟨b, us, eb, lb, ib⟩ := X₄.dat.row j hj
  have lvb := ib.length
  refine ev_upto ((t_rows LE P X₄ (t_j LE X₄.ns hmj) hj) _ _ _ ((t_size LE P X₄ (t_j LE X₄.ns hmj) hj) _ _ _ ⟨b, us, sz (D.N j), _, h₄, _, eb, rfl, rfl, lb.isList, by omega, fun r₅ h₅ k₅ hr₅ l₅ => ?_⟩))
  refine do_eqRow (s := st s h₅ _) (by have := hA.hu; omega) ⟨r₄, _, rfl, plain_kp k₅ l₄, ia.take _⟩ ⟨r₅, _, rfl, l₅, ib.take _⟩ ?_
  refine wpAny_isNot_self rfl (wpAny_truthy_bool (wpAny_execs_nil (q h₅ _ ?_)))
  exact (((k₁.trans k₂).trans k₃).trans k₄).trans k₅
end
end Mine
end
section
open PySem PySem.W PyProof.Rows PySem.SeqAt
set_option maxRecDepth 100000
set_option maxHeartbeats 4000000
namespace Mine
section
variable {prog : Program} {w : World} {A : Around} {E : Value → Shared → Prop} {R : Result → Shared → Prop} {s : Shared} {h : Heap} {t : Nat} {L : Addr} {m : Str → Option Value} {D : Dat}
theorem inner {doc pm cd : Value} {i : Nat} {u : Tok} {Q : Flow → Shared → Prop} (hA : AOk 8 A) (hfr : A.frames = some [lawEnv doc pm cd L]) (P : DatPlain D L) (X : LS D L h m) (c : h.IsCell (L + 1) (some (.int (i : Int) u))) (hi : i < D.k)
    (q : ∀ h' t' m', KpB [L] h h' → h'.Ns L m' → MV D m' → Q .next (st s h' t')) : wpAny (model prog w) A (exec (lo 4) (lawEnv doc pm cd L)) Q E (st s h t) := by
  have LE : LawE (lawEnv doc pm cd L) L := lawE
  have few := P.few
  refine wpAny_For (ev_type1 X.G boot_range (wpAny_BinOp ((t_i LE c) _ _ _ (ev_int fun u₁ t₁ => PyProof.Rows.add_int (s := st s h t₁) ?_))) (by simp [bNames]) LE.glob LE.bi LE.fn LE.grange)
  refine do_range1 (s := s) (h := h) fun r h₁ t₂ ta tb tc k₁ hr Rg => ?_
  refine it_range Rg (by omega) (by omega) (by omega) fun I h₂ k₂ hI i₂ => ?_
  have en : ((i : Int) + 1 - 0).toNat = i + 1 := by omega
  rw [en] at i₂
  have k02 := k₁.trans k₂
  have hI0 : h.get? I = none := none_of_kp k₁ hI
  have hIL : I ≠ L := (ns_ne X.ns hI0).symm
  have hIc : L + 1 ≠ I := by
    obtain ⟨o, e, _⟩ := c
    exact ne_of_none e hI0
  have hS : ∀ b ∈ [L, I], b ∈ [L, L + 1] ∨ h.get? b = none := fun b hb => by
    rcases List.mem_cons.mp hb with rfl | hb
    · exact .inl (.head _)
    · rw [List.mem_singleton.mp hb]; exact .inr hI0
  have cc : ∀ {h' : Heap}, KpB [L, I] h h' → h'.IsCell (L + 1) (some (.int (i : Int) u)) := fun k => by
    obtain ⟨o, e, d⟩ := c
    exact ⟨o, k _ _ (by simp [hIc]) e, d⟩
  refine for_walk2 (Walks.range hA.hh I 0 1 (i + 1)) [L] (by simpa using hIL.symm) (fun _ h' => KpB [L, I] h h' ∧ ∃ m', h'.Ns L m' ∧ MV D m') ?_ (k := 0) i₂ ⟨KpB.of k02, m, X.ns.keeps k02, X.mv⟩ (Nat.zero_le _) ?_ ?_
  · rintro j ha hb _ ⟨k, m', n', mv⟩ kI
    exact ⟨k.trans (kI.more (by simp)), m', n'.at' fun o e => kI _ o (by simpa using hIL.symm) e, mv⟩
  · rintro j v h₃ t₃ _ hj ⟨tv, rfl⟩ ⟨k3, m₃, n₃, mv₃⟩
    have hjk : j < D.k := by omega
    have hp : (0 : Int) + (j : Int) * 1 = (j : Int) := by omega
    rw [hp]
    have X₃ : LS D L h₃ m₃ := X.step P hS k3 n₃ mv₃ ⟨_, cc k3⟩
    refine wpAny_assign_Name (st_local n₃ (fun h₄ n₄ b₄ => ?_) LE.loc LE.kj LE.cls)
    have k4 : KpB [L, I] h h₄ := k3.trans ((KpB.same b₄).more (by simp))
    have mv₄ : MV D _ := mv₃.set (x := Str.ofString "j") (v := .int (j : Int) tv) (by decide)
    have X₄ := X₃.store P b₄ n₄ mv₄
    refine wpAny_execs_cons (tt1 hA P X₄ (cc k4) hi (if_pos rfl) hjk fun h₅ t₅ b₅ n₅ => ?_)
    have k5 : KpB [L, I] h h₅ := k4.trans ((KpB.same b₅).more (by simp))
    have mv₅ : MV D _ := mv₄.set (x := Str.ofString "alike") (v := .bool (decide (bC (D.N i) = bC (D.N j)))) (by decide)
    have X₅ := X₄.store P b₅ n₅ mv₅
    have mj : (fun y => if y = Str.ofString "alike" then some (Value.bool (decide (bC (D.N i) = bC (D.N j)))) else if y = Str.ofString "j" then some (Value.int (j : Int) tv) else m₃ y) (Str.ofString "j") = some (.int (j : Int) tv) := (if_neg (by decide)).trans (if_pos rfl)
    refine wpAny_execs_cons (tt2 hA hfr P X₅ (cc k5) hi mj hjk (if_pos rfl) fun h₆ t₆ kF => ?_)
    have k6 : KpB [L, I] h h₆ := k5.trans (kF.b.more (by simp))
    have X₆ := X₅.frame P kF
    refine wpAny_execs_cons (tt3 hA P X₆ (cc k6) hi mj hjk (if_pos rfl) fun h₇ t₇ k₇ => ?_)
    have k7 : KpB [L, I] h h₇ := k6.trans (KpB.of k₇)
    have X₇ := X₆.mono P k₇
    refine wpAny_execs_cons (tt4 hA P X₇ (cc k7) hi mj hjk fun h₈ t₈ k₈ => wpAny_execs_nil ?_)
    have k8 : KpB [L, I] h h₈ := k7.trans (KpB.of k₈)
    have X₈ := X₇.mono P k₈
    exact ⟨h₈, t₈, rfl, ((((KpB.same b₄).trans (KpB.same b₅)).trans kF.b).trans (KpB.of k₇)).trans (KpB.of k₈), k8, _, X₈.ns, X₈.mv⟩
  · rintro h₃ t₃ ⟨k3, m₃, n₃, mv₃⟩
    exact q h₃ t₃ m₃ (fun b o hb e => k3 b o (by
      simp only [List.mem_cons, List.not_mem_nil, or_false, not_or] at hb ⊢
      exact ⟨hb, ne_of_none e hI0⟩) e) n₃ mv₃
theorem outer {doc pm cd : Value} {Q : Flow → Shared → Prop} (hA : AOk 8 A) (hfr : A.frames = some [lawEnv doc pm cd L]) (P : DatPlain D L) (X : LS D L h m)
    (q : ∀ h' t' m', KpB [L, L + 1] h h' → h'.Ns L m' → Q .next (st s h' t')) : wpAny (model prog w) A (exec (lst 9) (lawEnv doc pm cd L)) Q E (st s h t) := by
  have LE : LawE (lawEnv doc pm cd L) L := lawE
  have few := P.few
  refine wpAny_For (ev_type1 X.G boot_range (ev_len LE X.G (Tells.local LE X.ns X.mv.rows LE.krows) X.dat.rows.isList (by simp; omega) fun u₁ t₁ => ?_) (by simp [bNames]) LE.glob LE.bi LE.fn LE.grange)
  have hlen : ((List.range D.k).map D.f).length = D.k := by simp
  rw [hlen]
  refine do_range1 (s := s) (h := h) fun r h₁ t₂ ta tb tc k₁ hr Rg => ?_
  refine it_range Rg (by omega) (by omega) (by omega) fun I h₂ k₂ hI i₂ => ?_
  have en : ((D.k : Int) - 0).toNat = D.k := by omega
  rw [en] at i₂
  have k02 := k₁.trans k₂
  have hI0 : h.get? I = none := none_of_kp k₁ hI
  have hIL : I ≠ L := (ns_ne X.ns hI0).symm
  have hIc : L + 1 ≠ I := by
    obtain ⟨v, o, e, _⟩ := X.ci
    exact ne_of_none e hI0
  have hS : ∀ b ∈ [L, L + 1, I], b ∈ [L, L + 1] ∨ h.get? b = none := fun b hb => by
    rcases List.mem_cons.mp hb with rfl | hb
    · exact .inl (.head _)
    · rcases List.mem_cons.mp hb with rfl | hb
      · exact .inl (.tail _ (.head _))
      · rw [List.mem_singleton.mp hb]; exact .inr hI0
  refine for_walk2 (Walks.range hA.hh I 0 1 D.k) [L, L + 1] (by simpa using ⟨hIL.symm, hIc⟩) (fun _ h' => KpB [L, L + 1, I] h h' ∧ (∃ m', h'.Ns L m' ∧ MV D m') ∧ ∃ v, h'.IsCell (L + 1) v) ?_ (k := 0) i₂ ⟨KpB.of k02, ⟨m, X.ns.keeps k02, X.mv⟩, let ⟨v, c⟩ := X.ci; ⟨v, c.keeps k02⟩⟩ (Nat.zero_le _) ?_ ?_
  · rintro j ha hb _ ⟨k, ⟨m', n', mv⟩, v, c⟩ kI
    refine ⟨k.trans (kI.more (by simp)), ⟨m', n'.at' fun o e => kI _ o (by simpa using hIL.symm) e, mv⟩, v, ?_⟩
    obtain ⟨o, e, d⟩ := c
    exact ⟨o, kI _ _ (by simpa using hIc) e, d⟩
  · rintro i v h₃ t₃ _ hi ⟨tv, rfl⟩ ⟨k3, ⟨m₃, n₃, mv₃⟩, v₃, c₃⟩
    have hp : (0 : Int) + (i : Int) * 1 = (i : Int) := by omega
    rw [hp]
    have X₃ : LS D L h₃ m₃ := X.step P hS k3 n₃ mv₃ ⟨_, c₃⟩
    refine wpAny_assign_Name (wpAny_storeName_cell (s := st s h₃ t₃) LE.fn LE.ki LE.ci c₃ fun h₄ c₄ b₄ => ?_)
    have n₄ : h₄.Ns L m₃ := n₃.sameBut b₄ (ad L).1.symm
    have X₄ : LS D L h₄ m₃ := X₃.step (S := [L + 1]) P (fun b hb => .inl (by simp [List.mem_singleton.mp hb])) (KpB.same b₄) n₄ mv₃ ⟨_, c₄⟩
    refine wpAny_execs_cons (st1 hA P X₄ c₄ hi fun h₅ t₅ k₅ => ?_)
    have X₅ := X₄.mono P k₅
    have c₅ := c₄.keeps k₅
    refine wpAny_execs_cons (st2 hA P X₅ c₅ hi fun h₆ t₆ k₆ => ?_)
    have X₆ := X₅.mono P k₆
    have c₆ := c₅.keeps k₆
    refine wpAny_execs_cons (st3 P X₆ c₆ hi fun h₇ t₇ b₇ n₇ => ?_)
    have mv₇ : MV D _ := X₆.mv.set (x := Str.ofString "repeated") (v := .bool (decide (sz (D.N i) < (D.N i).length))) (by decide)
    have X₇ := X₆.store P b₇ n₇ mv₇
    have c₇ := c₆.sameBut b₇ (ad L).1
    refine wpAny_execs_cons (st4 hA hfr P X₇ c₇ hi (if_pos rfl) fun h₈ t₈ k₈ => ?_)
    have X₈ := X₇.frame P k₈
    have c₈ : h₈.IsCell (L + 1) (some (.int (i : Int) tv)) := by
      obtain ⟨o, e, d⟩ := c₇
      exact ⟨o, k₈.but _ _ (by simp) e, d⟩
    refine wpAny_execs_cons (inner hA hfr P X₈ c₈ hi fun h₉ t₉ m₉ k₉ n₉ mv₉ => wpAny_execs_nil ?_)
    have c₉ : h₉.IsCell (L + 1) (some (.int (i : Int) tv)) := by
      obtain ⟨o, e, d⟩ := c₈
      exact ⟨o, k₉ _ _ (by simp) e, d⟩
    have k39 : KpB [L, L + 1] h₃ h₉ := ((((((KpB.same b₄).more (by simp)).trans (KpB.of k₅)).trans (KpB.of k₆)).trans ((KpB.same b₇).more (by simp))).trans (k₈.b.more (by simp))).trans (k₉.more (by simp))
    exact ⟨h₉, t₉, rfl, k39, k3.trans (k39.more (by intro b hb; simp only [List.mem_cons, List.not_mem_nil, or_false] at hb ⊢; rcases hb with rfl | rfl <;> simp)), ⟨m₉, n₉, mv₉⟩, _, c₉⟩
  · rintro h₃ t₃ ⟨k3, ⟨m₃, n₃, mv₃⟩, v₃, c₃⟩
    exact q h₃ t₃ m₃ (fun b o hb e => k3 b o (by
      simp only [List.mem_cons, List.not_mem_nil, or_false, not_or] at hb ⊢
      exact ⟨hb.1, hb.2, ne_of_none e hI0⟩) e) n₃
end
end Mine
end
section
open PySem PySem.W PyProof.Rows PySem.SeqAt
set_option maxRecDepth 100000
set_option maxHeartbeats 4000000
namespace Mine
theorem GndK.mono {h h' : Heap} (k : Kp h h') (x : GndK h) : GndK h' :=
  ⟨let ⟨o, doc, pm, e, d⟩ := x.f35; ⟨o, doc, pm, k _ _ e, d⟩, k _ _ x.st2, k _ _ x.c34, k _ _ x.p30, let ⟨o, e⟩ := x.sm; ⟨o, k _ _ e⟩, k _ _ x.o4, let ⟨mb, n, r⟩ := x.b; ⟨mb, n.keeps k, r⟩, let ⟨mg, n, r⟩ := x.g; ⟨mg, n.keeps k, r⟩⟩
theorem cell_b {S : List Addr} {h h' : Heap} {c : Addr} {v : Option Value} (k : KpB S h h') (hc : c ∉ S) : h.IsCell c v → h'.IsCell c v
  | ⟨o, e, d⟩ => ⟨o, k _ _ hc e, d⟩
theorem nm1 {x a : Addr} (h : x ≠ a) : x ∉ [a] := fun m => h (List.mem_singleton.mp m)
theorem nm2 {x a b : Addr} (h1 : x ≠ a) (h2 : x ≠ b) : x ∉ [a, b] := fun m => (List.mem_cons.mp m).elim h1 fun m => h2 (List.mem_singleton.mp m)
theorem ad3 (L : Nat) : L + 1 ≠ L ∧ L + 2 ≠ L ∧ L + 3 ≠ L ∧ L + 1 ≠ L + 2 ∧ L + 3 ≠ L + 2 ∧ L + 1 ≠ L + 3 ∧ L + 2 ≠ L + 3 := by omega
section
variable {prog : Program} {w : World} {A : Around} {E : Value → Shared → Prop} {R : Result → Shared → Prop} {s : Shared} {h : Heap} {t : Nat} {L : Addr} {m : Str → Option Value}
theorem law_body {doc pm : Value} {hb : Heap} {a : Addr} {vs : List Value} {ns : List Int} {Q : Flow → Shared → Prop} (hA : AOk 8 A) (hfr : A.frames = some [lawEnv doc pm (.ref 72) L]) (hL : 74 ≤ L) (k0 : Kp hb h) (hn0 : hb.get? L = none) (hn1 : hb.get? (L + 1) = none) (hn2 : hb.get? (L + 2) = none) (hn3 : hb.get? (L + 3) = none)
    (G : Gnd hb) (GK : GndK hb) (GL : GndL hb) (P70 : hb.get? 70 = some (tabObj #[])) (n : h.Ns L m) (hm : m (Str.ofString "script") = some (.ref a)) (hmi : m (Str.ofString "__init__") = none)
    (c1 : h.IsCell (L + 1) none) (c2 : h.IsCell (L + 2) none) (c3 : h.IsCell (L + 3) none) (hl : hb.IsList a vs.toArray) (hi : IntsAre vs ns) (hsz : vs.length ≤ 63)
    (q : ∀ h' tk m30 m70, KpB [30, 70] hb h' → h'.get? 30 = some (tabObj m30) → h'.get? 70 = some (tabObj m70) → Q (.ret (.bool true)) (st s h' tk)) :
    wpAny (model prog w) A (execs (dpAt 12).body (lawEnv doc pm (.ref 72) L)) Q E (st s h t) := by
  obtain ⟨a1, a2, a3, a4, a5, a6, a7⟩ := ad3 L
  have klen : (seeds ns).length ≤ 5 := by unfold seeds; simp; have := hi.length; omega
  obtain ⟨N, hN⟩ : ∃ N : Nat → List Int, N = fun i => rowOf ((seeds ns).getD i 0) := ⟨_, rfl⟩
  have rowm : ∀ i, N i ∈ allRows := fun i => by rw [hN]; exact row_mem _
  have row4 : ∀ i, (N i).length ≤ 4 := fun i => (rows_len _ (rowm i)).2
  -- rows
  refine wpAny_execs_cons (law_rows (hA.less (by omega)) (G.mono k0) n hm (isList_kp k0 hl) hi (by omega) fun R f h₁ t₁ kb₁ hR lR₁ rR₁ n₁ => ?_)
  have rR₁ : ∀ i, i < (seeds ns).length → RowAt h₁ (f i) (N i) := by rw [hN]; exact rR₁
  generalize (seeds ns).length = k at klen lR₁ rR₁
  have k1 : Kp hb h₁ := KpB.kp k0 kb₁ (by simpa using hn0)
  have c1₁ := cell_b kb₁ (nm1 a1) c1
  have c2₁ := cell_b kb₁ (nm1 a2) c2
  have c3₁ := cell_b kb₁ (nm1 a3) c3
  -- turned
  refine wpAny_execs_cons (law_turned (k := k) (N := N) (hA.less (by omega)) (G.mono k1) n₁ c2₁ (if_pos rfl) lR₁ rR₁ (fun i _ => Nat.le_trans (row4 i) (by decide)) (by omega) fun T g ps h₂ t₂ kb₂ hT lT₂ rT₂ c2₂ => ?_)
  have k2 : Kp hb h₂ := KpB.kp k1 kb₂ (by simpa using hn2)
  have s2 : KpS h₁ h₂ := KpS.cell c2₁ kb₂
  have n₂ := n₁.at' (h' := h₂) fun o e => kb₂ _ o (nm1 a2.symm) e
  have c1₂ := cell_b kb₂ (nm1 a4) c1₁
  have c3₂ := cell_b kb₂ (nm1 a5) c3₁
  have psl : ∀ i, i < k → (ps i).length ≤ 4 ∧ ps i ≠ [] := fun i hi => by
    have e := ps_len (rT₂ i hi).2
    have h4 := row4 i
    refine ⟨by omega, fun z => ?_⟩
    rw [z] at e
    exact (rows_len _ (rowm i)).1 (List.length_eq_zero_iff.mp e.symm)
  -- once
  refine wpAny_execs_cons (law_once (k := k) (hA.less (by omega)) (G.mono k2) n₂ c2₂ c3₂ lT₂ (fun i hi => (rT₂ i hi).1) (fun i hi => Nat.le_trans (psl i hi).1 (by decide)) (by omega) fun O o h₃ t₃ kb₃ hO lO₃ rO₃ c3₃ => ?_)
  have k3 : Kp hb h₃ := KpB.kp k2 kb₃ (by simpa using hn3)
  have s3 : KpS h₂ h₃ := KpS.cell c3₂ kb₃
  have n₃ := n₂.at' (h' := h₃) fun o e => kb₃ _ o (nm1 a3.symm) e
  have c1₃ := cell_b kb₃ (nm1 a6) c1₂
  have c2₃ := cell_b kb₃ (nm1 a7) c2₂
  -- least
  refine wpAny_execs_cons (law_least (k := k) (hA.less (by omega)) (G.mono k3) n₃ c2₃ (plainS s3 lT₂) (fun i hi => (rT₂ i hi).1.upS s3) (fun i hi => (psl i hi).2) (by omega) fun Le h₄ t₄ kb₄ hLe lL₄ n₄ => ?_)
  have k4 : Kp hb h₄ := KpB.kp k3 kb₄ (by simpa using hn0)
  have s4 : KpS h₃ h₄ := KpS.ns n₃ kb₄
  have c1₄ := cell_b kb₄ (nm1 a1) c1₃
  have c2₄ := cell_b kb₄ (nm1 a2) c2₃
  have c3₄ := cell_b kb₄ (nm1 a3) c3₃
  have s14 : KpS h₁ h₄ := (s2.trans s3).trans s4
  -- size
  refine wpAny_execs_cons (law_size (k := k) (N := N) (z := fun i => sz (N i) - 1) (hA.less (by omega)) (G.mono k4) n₄ ((if_neg (by decide)).trans (if_pos rfl)) (plainS s14 lR₁) (fun i hi => (rR₁ i hi).monoS s14) (fun i _ => ⟨Nat.le_trans (row4 i) (by decide), (rows_len _ (rowm i)).1, (rows_size _ (rowm i)).1⟩) (by omega) fun Z u h₅ t₅ kb₅ hZ lZ₅ n₅ => ?_)
  have k5 : Kp hb h₅ := KpB.kp k4 kb₅ (by simpa using hn0)
  have s5 : KpS h₄ h₅ := KpS.ns n₄ kb₅
  have c1₅ := cell_b kb₅ (nm1 a1) c1₄
  have c2₅ := cell_b kb₅ (nm1 a2) c2₄
  have c3₅ := cell_b kb₅ (nm1 a3) c3₄
  -- key
  refine wpAny_execs_cons (law_key (hA.less (by omega)) (G.mono k5) (GK.mono k5) n₅ ((if_neg (by decide)).trans ((if_neg (by decide)).trans ((if_neg (by decide)).trans hmi))) fun C Lk h₆ t₆ kb₆ hLk h30 KO₆ n₆ => ?_)
  obtain ⟨c30, h30⟩ := h30
  have hL30 : L ≠ 30 := fun e => by rw [e] at hL; exact absurd hL (by decide)
  have hL70 : L ≠ 70 := fun e => by rw [e] at hL; exact absurd hL (by decide)
  have lo5 : ∀ b ∈ [30, L], Loose h₅ b := fun b hb => by
    rcases List.mem_cons.mp hb with rfl | hb
    · exact .inr (.inr (.inr ⟨_, k5 _ _ GK.p30, rfl, by decide⟩))
    · rw [List.mem_singleton.mp hb]; exact .inr (.inl ⟨hL, _, n₅⟩)
  have s6 : KpS h₅ h₆ := Loose.seq lo5 kb₆
  have G₆ := Loose.gnd lo5 kb₆ (G.mono k5)
  have GL₆ := Loose.gndL lo5 kb₆ (GL.mono k5)
  have hi30 : ∀ x : Nat, 74 ≤ x → x ≠ 30 ∧ x ≠ 70 := fun x hx => ⟨fun e => by omega, fun e => by omega⟩
  have c1₆ := cell_b kb₆ (nm2 (hi30 _ (Nat.le_add_right_of_le hL)).1 a1) c1₅
  have c2₆ := cell_b kb₆ (nm2 (hi30 _ (Nat.le_add_right_of_le hL)).1 a2) c2₅
  have c3₆ := cell_b kb₆ (nm2 (hi30 _ (Nat.le_add_right_of_le hL)).1 a3) c3₅
  have b6 : KpB [30] hb h₆ := fun b o hb e => kb₆ b o (by
    simp only [List.mem_cons, List.not_mem_nil, or_false, not_or] at hb ⊢
    exact ⟨hb, ne_of_none e hn0⟩) (k5 _ _ e)
  have P₆ : h₆.get? 70 = some (tabObj #[]) := b6 _ _ (by decide) P70
  -- the first test
  refine wpAny_execs_cons (law_test1 (hA.less (by omega)) G₆ n₆ (if_pos rfl) KO₆ fun h₇ t₇ k₇ => ?_)
  have n₇ := n₆.keeps k₇
  have P₇ := k₇ _ _ P₆
  -- written
  refine wpAny_execs_cons (law_written hA hfr hL (G₆.mono k₇) (GL₆.mono k₇) P₇ n₇ fun W as c70 h₈ t₈ kb₈ h70 rW n₈ => ?_)
  have lo7 : ∀ b ∈ [70, L], Loose h₇ b := fun b hb => by
    rcases List.mem_cons.mp hb with rfl | hb
    · exact .inr (.inr (.inr ⟨_, P₇, rfl, by decide⟩))
    · rw [List.mem_singleton.mp hb]; exact .inr (.inl ⟨hL, _, n₇⟩)
  have ap7 : ∀ b ∈ [70, L], Apart h₇ b := fun b hb => by
    rcases List.mem_cons.mp hb with rfl | hb
    · exact .inr (.inr (.inr ⟨_, P₇, rfl⟩))
    · rw [List.mem_singleton.mp hb]
      exact .inr (.inr (.inl ⟨_, n₇, (if_neg (by decide)).trans ((if_neg (by decide)).trans ((if_neg (by decide)).trans ((if_neg (by decide)).trans hmi)))⟩))
  have s8 : KpS h₇ h₈ := Loose.seq lo7 kb₈
  have G₈ := Loose.gnd lo7 kb₈ (G₆.mono k₇)
  have hLkL : Lk + 1 ≠ L := by
    obtain ⟨o', _, _, e', _⟩ := n₅
    exact (ne_of_none e' hLk).symm
  have hLkc : Lk + 1 ≠ L + 1 := by
    obtain ⟨o', e', _⟩ := c1₅
    exact (ne_of_none e' hLk).symm
  have hLk70 : Lk + 1 ≠ 70 := (ne_of_none (k5 _ _ P70) hLk).symm
  have KO₈ : KeyOk h₈ Lk C := (KO₆.mono k₇).apart ap7 (nm2 hLk70 hLkL) kb₈
  have off8 : ∀ {c : Addr} {v : Option Value}, 74 ≤ c → c ≠ L → h₆.IsCell c v → h₈.IsCell c v := fun h1 h2 x => cell_b kb₈ (nm2 (hi30 _ h1).2 h2) (x.keeps k₇)
  have c1₈ := off8 (Nat.le_add_right_of_le hL) a1 c1₆
  have c2₈ := off8 (Nat.le_add_right_of_le hL) a2 c2₆
  have c3₈ := off8 (Nat.le_add_right_of_le hL) a3 c3₆
  have h30₈ : h₈.get? 30 = some (tabObj #[.int 21 0, .int 4 0, .ref c30]) := kb₈ _ _ (nm2 (by decide) hL30.symm) (k₇ _ _ h30)
  have b8 : KpB [30, 70] hb h₈ := fun b o hb e => kb₈ b o (by
    simp only [List.mem_cons, List.not_mem_nil, or_false, not_or] at hb ⊢
    exact ⟨hb.2, ne_of_none e hn0⟩) (k₇ _ _ (b6 b o (by
      simp only [List.mem_cons, List.not_mem_nil, or_false, not_or] at hb ⊢
      exact hb.1) e))
  -- the second test
  refine wpAny_execs_cons (law_test2 (hA.less (by omega)) n₈ (if_pos rfl) rW fun h₉ t₉ k₉ => ?_)
  -- the loop
  have s59 : KpS h₅ h₉ := ((s6.trans (KpS.kp k₇)).trans s8).trans (KpS.kp k₉)
  have s49 := s5.trans s59
  have s39 := s4.trans s49
  have s29 := s3.trans s39
  have s19 := s2.trans s29
  let Dt : Dat := { R := R, T := T, O := O, Le := Le, Z := Z, C := C, Lk := Lk, k := k, N := N, f := f, g := g, o := o, ps := ps, u := u }
  have PD : DatPlain Dt L := ⟨hL, klen, fun i _ => rowm i, fun i hi => (rT₂ i hi).2, hLkL, hLkc⟩
  have ez : ∀ i, sz (N i) - 1 + 1 = sz (N i) := fun i => by have := (rows_size _ (rowm i)).2.2; omega
  have lZ₅' : h₅.PlainList Z ((List.range k).map fun i => Value.int (sz (N i) : Int) (u i)).toArray := by
    have e : ((List.range k).map fun i => Value.int ((sz (N i) - 1 + 1 : Nat) : Int) (u i)) = (List.range k).map fun i => Value.int (sz (N i) : Int) (u i) := List.map_congr_left fun i _ => by rw [ez i]
    rw [← e]; exact lZ₅
  have DO : DatOk Dt h₉ := ⟨plainS s19 lR₁, plainS s29 lT₂, plainS s39 lO₃, plainS s49 lL₄, plainS s59 lZ₅', fun i hi => (rR₁ i hi).monoS s19, fun i hi => (rT₂ i hi).1.upS s29, fun i hi => plainS s39 (rO₃ i hi)⟩
  have X : LS Dt L h₉ _ := ⟨G₈.mono k₉, n₈.keeps k₉, ⟨rfl, rfl, rfl, rfl, hmi⟩, ⟨_, c1₈.keeps k₉⟩, c2₈.keeps k₉, c3₈.keeps k₉, KO₈.mono k₉, DO⟩
  refine wpAny_execs_cons (outer hA hfr PD X fun ha ta ma kba na => ?_)
  refine wpAny_execs_cons (wpAny_Return_some (ev_bool ?_))
  have lift : ∀ x : Nat, x < 74 → x ∉ [L, L + 1] := fun x hx => by
    simp only [List.mem_cons, List.not_mem_nil, or_false, not_or]
    exact ⟨fun e => absurd hL (Nat.not_le.mpr (e ▸ hx)), fun e => absurd (Nat.le_add_right_of_le (k := 1) hL) (Nat.not_le.mpr (e ▸ hx))⟩
  refine q ha ta _ _ (fun b o hb e => kba b o (by
    simp only [List.mem_cons, List.not_mem_nil, or_false, not_or]
    exact ⟨ne_of_none e hn0, ne_of_none e hn1⟩) (k₉ _ _ (b8 b o hb e))) (kba _ _ (lift 30 (by decide)) (k₉ _ _ h30₈)) (kba _ _ (lift 70 (by decide)) (k₉ _ _ h70))
end
end Mine
end
section
open PySem PySem.W PyProof.Rows PySem.SeqAt
set_option maxRecDepth 100000
set_option maxHeartbeats 4000000
namespace Mine
section
variable {prog : Program} {w : World} {A : Around} {E : Value → Shared → Prop} {s : Shared} {h : Heap} {t : Nat}
theorem caller_ok : AOk 9 callerA := ⟨rfl, by decide, by decide⟩
/-- law(script) -/
theorem law_spec {a : Addr} {vs : List Value} {ns : List Int} {doc pm : Value} {o : Obj} {Q : Value → Shared → Prop} (ho : h.get? 73 = some o) (hd : o.data = .func (fdOf (Str.ofString "law") (dpAt 12) .none doc pm (.ref 72))) (hc : h.CodeRec (.ref 72) (Str.ofString "law"))
    (G : Gnd h) (GK : GndK h) (GL : GndL h) (P70 : h.get? 70 = some (tabObj #[])) (hl : h.IsList a vs.toArray) (hi : IntsAre vs ns) (hsz : vs.length ≤ 63)
    (q : ∀ h' tk m30 m70, KpB [30, 70] h h' → h'.get? 30 = some (tabObj m30) → h'.get? 70 = some (tabObj m70) → Q (.bool true) (st s h' tk)) :
    wpAny (model prog w) callerA (call (.ref 73) [.ref a]) Q E (st s h t) := by
  have hA := caller_ok
  refine wpAny_call (codeAny_call_cells (s := st s h t) (binds := [(Str.ofString "script", .ref a)]) (by have := hA.hd; omega) ho hd G.lim hc rfl (by rfl) rfl (fun x hx => ?_) (fun s₁ x => ?_))
  · rw [List.mem_singleton.mp hx]
    exact .inl rfl
  obtain ⟨h₁, tk, rfl, k⟩ := x.done
  have n := x.toInCall.ns
  have c1 : h₁.IsCell (h.objs.size + 1) none := x.cell (Str.ofString "i") (h.objs.size + 1) (by rfl)
  have c2 : h₁.IsCell (h.objs.size + 2) none := x.cell (Str.ofString "turned") (h.objs.size + 2) (by rfl)
  have c3 : h₁.IsCell (h.objs.size + 3) none := x.cell (Str.ofString "once") (h.objs.size + 3) (by rfl)
  have hL : 74 ≤ h.objs.size := Heap.lt_size ho
  have hn : ∀ j, h.get? (h.objs.size + j) = none := fun j => Heap.get?_none_of_le (Nat.le_add_right _ _)
  refine law_body (s := s) (hA.deeper _) (Around.frames_deeper rfl) hL k (hn 0) (hn 1) (hn 2) (hn 3) G GK GL P70 n rfl rfl c1 c2 c3 hl hi hsz fun h' tk' m30 m70 kb e30 e70 => ?_
  exact q h' tk' m30 m70 kb e30 e70
/-- names by a written part of the heap -/
theorem ns_in {K : Frag} {h : Heap} {b : Addr} {m : Str → Option Value} {x : Str} {r : Option Value} (X : K.In h) (n : h.Ns b m) (e : nsIn K b x = some r) : m x = r := by
  obtain ⟨o, es, ep, ho, hd, _, hf⟩ := n
  unfold nsIn at e
  split at e
  · rename_i c d es' n' sl q
    have := X _ _ q
    rw [ho] at this
    cases this
    cases hd
    rw [← hf x]
    obtain ⟨l⟩ := es
    simp only [nsFind, findBy, List.find?_toArray]
    simp only at e
    cases hq : l.find? (fun e => e.key.isStr x) with
    | some en => rw [hq] at e; exact Option.some.inj e
    | none =>
      rw [hq] at e
      simp only at e
      split at e
      · cases e
      · exact Option.some.inj e
  · cases e
theorem old_of {h h' : Heap} {m30 m70 : Array Value} (GK : GndK h) (c72 : h.TableAt 72 70 #[]) (kb : KpB [30, 70] h h') (e30 : h'.get? 30 = some (tabObj m30)) (e70 : h'.get? 70 = some (tabObj m70)) : OldK h h' := by
  have t30 : isCodeTable h 30 := ⟨34, _, _, GK.c34, rfl, rfl, rfl⟩
  have t70 : isCodeTable h 70 := c72.isCodeTable
  refine ⟨fun b o e => ?_, fun b o e => ?_⟩
  · by_cases h1 : b = 30
    · subst h1
      rw [GK.p30] at e; cases e
      exact .inr (.inl ⟨t30, rfl, #[], m30, rfl, by simpa using e30⟩)
    · by_cases h2 : b = 70
      · subst h2
        rw [c72.2] at e; cases e
        exact .inr (.inl ⟨t70, rfl, #[], m70, rfl, by simpa using e70⟩)
      · exact .inl (kb b o (nm2 h1 h2) e)
  · by_cases h1 : b = 30
    · subst h1; exact ⟨_, e30⟩
    · by_cases h2 : b = 70
      · subst h2; exact ⟨_, e70⟩
      · exact ⟨o, kb b o (nm2 h1 h2) e⟩
end
end Mine
end
section
open PySem PySem.W PyProof.Rows PySem.SeqAt
set_option maxRecDepth 100000
set_option maxHeartbeats 4000000
namespace Mine
/-- the part of the heap that the law reads -/
noncomputable def kHeap (P : Params) : Frag := [
  (1, { cls := .type "dict", data := .dict #[{ hash := PyData.keyHash P (Str.ofString "builtins"), key := .str (Str.ofString "builtins") 162, val := .ref 4 }, { hash := PyData.keyHash P (Str.ofString "__main__"), key := .str (Str.ofString "__main__") 163, val := .ref 5 }] 2 }),
  (2, { cls := .none, data := .dict #[] }),
  (3, ⟨.type "dict", none, .dict #[⟨PyData.keyHash P (Str.ofString "__name__"), .str (Str.ofString "__name__") 165, .str (Str.ofString "law_of0004_01") 234⟩,
  ⟨PyData.keyHash P (Str.ofString "__doc__"), .str (Str.ofString "__doc__") 166, .none⟩,
  ⟨PyData.keyHash P (Str.ofString "__package__"), .str (Str.ofString "__package__") 167, .none⟩,
  ⟨PyData.keyHash P (Str.ofString "__loader__"), .str (Str.ofString "__loader__") 168, .builtin "__main__.__loader__#opaque"⟩,
  ⟨PyData.keyHash P (Str.ofString "__spec__"), .str (Str.ofString "__spec__") 169, .none⟩,
  ⟨PyData.keyHash P (Str.ofString "__annotations__"), .str (Str.ofString "__annotations__") 170, .ref 6⟩,
  ⟨PyData.keyHash P (Str.ofString "__builtins__"), .str (Str.ofString "__builtins__") 171, .ref 4⟩,
  ⟨PyData.keyHash P (Str.ofString "__file__"), .str (Str.ofString "__file__") 173, .str (Str.ofString "/claim/cut.py") 172⟩,
  ⟨PyData.keyHash P (Str.ofString "__cached__"), .str (Str.ofString "__cached__") 174, .none⟩,
  ⟨PyData.keyHash P (Str.ofString "_deduplicate_unhashable"), .str (Str.ofString "_deduplicate_unhashable") 197, .ref 21⟩,
  ⟨PyData.keyHash P (Str.ofString "_compare_args_orderless"), .str (Str.ofString "_compare_args_orderless") 209, .ref 28⟩,
  ⟨PyData.keyHash P (Str.ofString "cmp_to_key"), .str (Str.ofString "cmp_to_key") 220, .ref 35⟩,
  ⟨PyData.keyHash P (Str.ofString "_initial_missing"), .str (Str.ofString "_initial_missing") 221, .ref 36⟩,
  ⟨PyData.keyHash P (Str.ofString "reduce"), .str (Str.ofString "reduce") 233, .ref 44⟩,
  ⟨PyData.keyHash P (Str.ofString "_law_row"), .str (Str.ofString "_law_row") 241, .ref 49⟩,
  ⟨PyData.keyHash P (Str.ofString "_law_beginning"), .str (Str.ofString "_law_beginning") 247, .ref 54⟩,
  ⟨PyData.keyHash P (Str.ofString "_law_lesser"), .str (Str.ofString "_law_lesser") 255, .ref 61⟩,
  ⟨PyData.keyHash P (Str.ofString "_law_joined"), .str (Str.ofString "_law_joined") 263, .ref 68⟩,
  ⟨PyData.keyHash P (Str.ofString "law"), .str (Str.ofString "law") 269, .ref 73⟩] 19, #[]⟩),
  (4, { cls := .type "module", dict := some 0 }),
  (20, { cls := .type "code", data := .fields #[.str (Str.ofString "_deduplicate_unhashable") 189, .str (Str.ofString "_deduplicate_unhashable") 190, .str (Str.ofString "/claim/cut.py") 191, .int 2 0, .int 1 0, .int 0 0, .int 0 0, .int 3 0, .ref 15, .bool true, .int 181 0, .ref 16, .none, .ref 17, .ref 18, .ref 19, .int 195 0, .int 2 0, .str (Str.ofString "/claim/cut.py") 196] }),
  (21, { cls := .type "function", data := .func (fdOf (Str.ofString "_deduplicate_unhashable") (dpAt 1) .none .none (.str (Str.ofString "cpy313.typing") 187) (.ref 20)) }),
  (27, { cls := .type "code", data := .fields #[.str (Str.ofString "_compare_args_orderless") 198, .str (Str.ofString "_compare_args_orderless") 199, .str (Str.ofString "/claim/cut.py") 200, .int 8 0, .int 2 0, .int 0 0, .int 0 0, .int 3 0, .ref 22, .bool true, .int 181 0, .ref 23, .none, .ref 24, .ref 25, .ref 26, .int 207 0, .int 8 0, .str (Str.ofString "/claim/cut.py") 208] }),
  (28, { cls := .type "function", data := .func (fdOf (Str.ofString "_compare_args_orderless") (dpAt 2) .none .none (.str (Str.ofString "cpy313.typing") 187) (.ref 27)) }),
  (30, { cls := .none, data := .fields #[] }),
  (34, { cls := .type "code", data := .fields #[.str (Str.ofString "cmp_to_key") 212, .str (Str.ofString "cmp_to_key") 213, .str (Str.ofString "/claim/cut.py") 214, .int 19 0, .int 1 0, .int 0 0, .int 0 0, .int 3 0, .ref 29, .bool true, .int 181 0, .ref 30, .none, .ref 31, .ref 32, .ref 33, .int 218 0, .int 19 0, .str (Str.ofString "/claim/cut.py") 219] }),
  (35, { cls := .type "function", data := .func (fdOf (Str.ofString "cmp_to_key") (dpAt 4) .none .none (.str (Str.ofString "cpy313.functools") 210) (.ref 34)) }),
  (36, { cls := .type "object" }),
  (37, { cls := .type "tuple", data := .seq #[.ref 36] }),
  (43, { cls := .type "code", data := .fields #[.str (Str.ofString "reduce") 222, .str (Str.ofString "reduce") 223, .str (Str.ofString "/claim/cut.py") 224, .int 45 0, .int 3 0, .int 0 0, .int 0 0, .int 3 0, .ref 38, .bool true, .int 181 0, .ref 39, .none, .ref 40, .ref 41, .ref 42, .int 231 0, .int 45 0, .str (Str.ofString "/claim/cut.py") 232] }),
  (44, { cls := .type "function", data := .func (fdOf (Str.ofString "reduce") (dpAt 6) (.ref 37) .none (.str (Str.ofString "cpy313.functools") 210) (.ref 43)) }),
  (48, { cls := .type "code", data := .fields #[.str (Str.ofString "_law_row") 236, .str (Str.ofString "_law_row") 237, .str (Str.ofString "/claim/cut.py") 238, .int 58 0, .int 1 0, .int 0 0, .int 0 0, .int 3 0, .ref 45, .bool true, .int 181 0, .ref 46, .none, .none, .none, .ref 47, .int 239 0, .int 58 0, .str (Str.ofString "/claim/cut.py") 240] }),
  (49, { cls := .type "function", data := .func (fdOf (Str.ofString "_law_row") (dpAt 8) .none .none (.str (Str.ofString "law_of0004_01") 234) (.ref 48)) }),
  (53, { cls := .type "code", data := .fields #[.str (Str.ofString "_law_beginning") 242, .str (Str.ofString "_law_beginning") 243, .str (Str.ofString "/claim/cut.py") 244, .int 60 0, .int 1 0, .int 0 0, .int 0 0, .int 3 0, .ref 50, .bool true, .int 181 0, .ref 51, .none, .none, .none, .ref 52, .int 245 0, .int 60 0, .str (Str.ofString "/claim/cut.py") 246] }),
  (54, { cls := .type "function", data := .func (fdOf (Str.ofString "_law_beginning") (dpAt 9) .none .none (.str (Str.ofString "law_of0004_01") 234) (.ref 53)) }),
  (60, { cls := .type "code", data := .fields #[.str (Str.ofString "_law_lesser") 248, .str (Str.ofString "_law_lesser") 249, .str (Str.ofString "/claim/cut.py") 250, .int 62 0, .int 2 0, .int 0 0, .int 0 0, .int 3 0, .ref 55, .bool true, .int 181 0, .ref 56, .none, .ref 57, .ref 58, .ref 59, .int 253 0, .int 62 0, .str (Str.ofString "/claim/cut.py") 254] }),
  (61, { cls := .type "function", data := .func (fdOf (Str.ofString "_law_lesser") (dpAt 10) .none .none (.str (Str.ofString "law_of0004_01") 234) (.ref 60)) }),
  (67, { cls := .type "code", data := .fields #[.str (Str.ofString "_law_joined") 256, .str (Str.ofString "_law_joined") 257, .str (Str.ofString "/claim/cut.py") 258, .int 64 0, .int 2 0, .int 0 0, .int 0 0, .int 3 0, .ref 62, .bool true, .int 181 0, .ref 63, .none, .ref 64, .ref 65, .ref 66, .int 261 0, .int 64 0, .str (Str.ofString "/claim/cut.py") 262] }),
  (68, { cls := .type "function", data := .func (fdOf (Str.ofString "_law_joined") (dpAt 11) .none .none (.str (Str.ofString "law_of0004_01") 234) (.ref 67)) }),
  (70, { cls := .none, data := .fields #[] }),
  (72, { cls := .type "code", data := .fields #[.str (Str.ofString "law") 264, .str (Str.ofString "law") 265, .str (Str.ofString "/claim/cut.py") 266, .int 66 0, .int 1 0, .int 0 0, .int 0 0, .int 3 0, .ref 69, .bool true, .int 181 0, .ref 70, .none, .none, .none, .ref 71, .int 267 0, .int 66 0, .str (Str.ofString "/claim/cut.py") 268] }),
  (73, { cls := .type "function", data := .func (fdOf (Str.ofString "law") (dpAt 12) .none .none (.str (Str.ofString "law_of0004_01") 234) (.ref 72)) })]
def kAddrs : List Addr := [1, 2, 3, 4, 20, 21, 27, 28, 30, 34, 35, 36, 37, 43, 44, 48, 49, 53, 54, 60, 61, 67, 68, 70, 72, 73]
end Mine
end
open PySem PySem.W PySem.W.X PyProof.Rows PySem.SeqAt
set_option maxRecDepth 100000
set_option maxHeartbeats 8000000
theorem PySem.Challenge.cw_of0004_01_holds : PySem.Challenge.rw_of0004_01.Holds := by
  w_on; o_law
  o_head (kHook Mine.kHeap Mine.kAddrs (fun _ => by kernel_rfl))
  (case hw => w_witness2)
  intro w s₀ s₁ mg mb G Y fa o pm cd doc dV kV ho hd hcd hD hmg hg args vals as hpre hlay hrd hwl hlo
  have KX := kIn_of Y
  refine Ground.open G ?_
  intro T B D TE TW
  wrow_args hpre hlay hrd hwl hlo
  x_fa T KX hmg
  rename IntsAre _ _ => hI
  rename Heap.IsList _ _ _ => hL
  have hlen := hI.length
  clear hd hcd hD hmg B D TE TW Y ho
  have f21 : Mine.DefAt s₁.heap 21 (Str.ofString "_deduplicate_unhashable") (Mine.dpAt 1) .none := ⟨_, _, _, _, KX 21 _ rfl, rfl, _, _, _, _, rfl, KX _ _ rfl, rfl, rfl⟩
  have f28 : Mine.DefAt s₁.heap 28 (Str.ofString "_compare_args_orderless") (Mine.dpAt 2) .none := ⟨_, _, _, _, KX 28 _ rfl, rfl, _, _, _, _, rfl, KX _ _ rfl, rfl, rfl⟩
  have f44 : Mine.DefAt s₁.heap 44 (Str.ofString "reduce") (Mine.dpAt 6) (.ref 37) := ⟨_, _, _, _, KX 44 _ rfl, rfl, _, _, _, _, rfl, KX _ _ rfl, rfl, rfl⟩
  have f49 : Mine.DefAt s₁.heap 49 (Str.ofString "_law_row") (Mine.dpAt 8) .none := ⟨_, _, _, _, KX 49 _ rfl, rfl, _, _, _, _, rfl, KX _ _ rfl, rfl, rfl⟩
  have f54 : Mine.DefAt s₁.heap 54 (Str.ofString "_law_beginning") (Mine.dpAt 9) .none := ⟨_, _, _, _, KX 54 _ rfl, rfl, _, _, _, _, rfl, KX _ _ rfl, rfl, rfl⟩
  have f61 : Mine.DefAt s₁.heap 61 (Str.ofString "_law_lesser") (Mine.dpAt 10) .none := ⟨_, _, _, _, KX 61 _ rfl, rfl, _, _, _, _, rfl, KX _ _ rfl, rfl, rfl⟩
  have f68 : Mine.DefAt s₁.heap 68 (Str.ofString "_law_joined") (Mine.dpAt 11) .none := ⟨_, _, _, _, KX 68 _ rfl, rfl, _, _, _, _, rfl, KX _ _ rfl, rfl, rfl⟩
  have gAll : ∀ p ∈ Mine.gNames, mg p.1 = some (.ref p.2) := by
    intro p hp
    simp only [Mine.gNames, List.mem_cons, List.not_mem_nil, or_false] at hp
    rcases hp with rfl | rfl | rfl | rfl | rfl | rfl | rfl | rfl | rfl <;> exact Mine.ns_in KX T.g (by kernel_rfl)
  have gNo : ∀ x ∈ Mine.bNames, mg x = none := by
    intro x hx
    simp only [Mine.bNames, List.mem_cons, List.not_mem_nil, or_false] at hx
    rcases hx with rfl | rfl | rfl | rfl | rfl | rfl | rfl <;> exact Mine.ns_in KX T.g (by kernel_rfl)
  have bAll : ∀ x ∈ Mine.bNames, mb x = bootBuiltins x := by
    intro x hx
    refine T.builtins x ?_
    rintro rfl
    exact absurd hx (by decide)
  have hG : Mine.Gnd s₁.heap := ⟨T.nolimit, f21, f28, f44, f49, f54, f61, f68, ⟨_, _, KX 37 _ rfl, rfl⟩, ⟨mg, T.g, gAll, gNo⟩, ⟨mb, T.b, bAll⟩⟩
  have hGK : Mine.GndK s₁.heap := ⟨⟨_, _, _, KX 35 _ rfl, rfl⟩, KX 2 _ rfl, KX 34 _ rfl, KX 30 _ rfl, ⟨_, KX sysModules _ rfl⟩, KX 4 _ rfl,
    ⟨mb, T.b, (T.builtins _ (by decide)).trans (by decide +kernel), (T.builtins _ (by decide)).trans (by decide +kernel)⟩,
    ⟨mg, T.g, Mine.ns_in KX T.g (by kernel_rfl), Mine.ns_in KX T.g (by kernel_rfl), Mine.ns_in KX T.g (by kernel_rfl)⟩⟩
  have hT : s₁.heap.TableAt 72 70 #[] := ⟨⟨_, _, KX 72 _ rfl, rfl, rfl, rfl⟩, KX 70 _ rfl⟩
  have hGL : Mine.GndL s₁.heap := ⟨⟨_, KX 36 _ rfl, rfl⟩, ⟨_, _, _, _, _, _, _, _, _, KX 72 _ rfl, rfl, rfl, rfl, rfl, rfl, rfl, rfl, rfl, by decide⟩, hGK.o4, let ⟨mg, n, _, e, _⟩ := hGK.g; ⟨mg, n, e⟩⟩
  refine Mine.law_spec (s := s₁) (h := s₁.heap) (t := s₁.toks) (KX 73 _ rfl) rfl ⟨72, _, _, _, rfl, KX 72 _ rfl, rfl, rfl⟩ hG hGK hGL hT.2 hL hI (by omega) fun h' tk m30 m70 kb e30 e70 => ?_
  refine ⟨.inl ⟨_, _, [], rfl, fun _ => rfl, ReadsW.bool true, ?_, fun _ => ⟨List.nodup_nil, fun _ hm => (nomatch hm)⟩⟩, Mine.old_of hGK hT kb e30 e70, rfl, .of_eq hg⟩
  wrow_post
